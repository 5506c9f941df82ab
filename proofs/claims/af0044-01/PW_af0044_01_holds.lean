import PyProof.Rows.All
import Wide.All
import OpenK.AllK
import Wide.FinOn
import PySem.Challenge.RW_af0044_01
open PySem PySem.W PyProof.Rows
set_option Elab.async false
set_option maxRecDepth 100000
set_option maxHeartbeats 4000000
namespace Mine

/-! ## the text's own parts, taken from the row by their places -/
noncomputable def stAt (i : Nat) : Stmt := (PySem.Challenge.pw_af0044_01.main.body[i]?).getD (.Pass default)
noncomputable def memAt (i j : Nat) : Stmt := match stAt i with
  | .ClassDef _ _ _ b _ _ _ _ _ _ _ => (b[j]?).getD (.Pass default)
  | s => s
noncomputable def fpar : Stmt → Arguments
  | .FunctionDef _ a _ _ _ _ _ _ _ _ => a
  | .Assign _ (.Lambda a _ _ _) _ => a
  | _ => default
noncomputable def fbody : Stmt → List Stmt
  | .FunctionDef _ _ b _ _ _ _ _ _ _ => b
  | _ => []
noncomputable def fexpr : Stmt → PySem.Expr
  | .Assign _ (.Lambda _ b _ _) _ => b
  | _ => default
noncomputable def fscope : Stmt → Scope
  | .FunctionDef _ _ _ _ _ _ s _ _ _ => s
  | .Assign _ (.Lambda _ _ s _) _ => s
  | _ => default
noncomputable def p3s : {x : Arguments // x = fpar (stAt 3)} := ⟨_, by conv => rhs; whnf⟩
noncomputable def b3s : {x : List Stmt // x = fbody (stAt 3)} := ⟨_, by conv => rhs; whnf⟩
noncomputable def s3s : {x : Scope // x = fscope (stAt 3)} := ⟨_, by conv => rhs; whnf⟩
noncomputable abbrev p3 : Arguments := p3s.1
noncomputable abbrev b3 : List Stmt := b3s.1
noncomputable abbrev s3 : Scope := s3s.1
noncomputable def p5s : {x : Arguments // x = fpar (stAt 5)} := ⟨_, by conv => rhs; whnf⟩
noncomputable def b5s : {x   : PySem.Expr // x = fexpr (stAt 5)} := ⟨_, by conv => rhs; whnf⟩
noncomputable def s5s : {x : Scope // x = fscope (stAt 5)} := ⟨_, by conv => rhs; whnf⟩
noncomputable abbrev p5 : Arguments := p5s.1
noncomputable abbrev b5   : PySem.Expr := b5s.1
noncomputable abbrev s5 : Scope := s5s.1
noncomputable def p16s : {x : Arguments // x = fpar (stAt 16)} := ⟨_, by conv => rhs; whnf⟩
noncomputable def b16s : {x : List Stmt // x = fbody (stAt 16)} := ⟨_, by conv => rhs; whnf⟩
noncomputable def s16s : {x : Scope // x = fscope (stAt 16)} := ⟨_, by conv => rhs; whnf⟩
noncomputable abbrev p16 : Arguments := p16s.1
noncomputable abbrev b16 : List Stmt := b16s.1
noncomputable abbrev s16 : Scope := s16s.1
noncomputable def p19s : {x : Arguments // x = fpar (stAt 19)} := ⟨_, by conv => rhs; whnf⟩
noncomputable def b19s : {x : List Stmt // x = fbody (stAt 19)} := ⟨_, by conv => rhs; whnf⟩
noncomputable def s19s : {x : Scope // x = fscope (stAt 19)} := ⟨_, by conv => rhs; whnf⟩
noncomputable abbrev p19 : Arguments := p19s.1
noncomputable abbrev b19 : List Stmt := b19s.1
noncomputable abbrev s19 : Scope := s19s.1
noncomputable def p20s : {x : Arguments // x = fpar (stAt 20)} := ⟨_, by conv => rhs; whnf⟩
noncomputable def b20s : {x : List Stmt // x = fbody (stAt 20)} := ⟨_, by conv => rhs; whnf⟩
noncomputable def s20s : {x : Scope // x = fscope (stAt 20)} := ⟨_, by conv => rhs; whnf⟩
noncomputable abbrev p20 : Arguments := p20s.1
noncomputable abbrev b20 : List Stmt := b20s.1
noncomputable abbrev s20 : Scope := s20s.1
noncomputable def p23s : {x : Arguments // x = fpar (stAt 23)} := ⟨_, by conv => rhs; whnf⟩
noncomputable def b23s : {x : List Stmt // x = fbody (stAt 23)} := ⟨_, by conv => rhs; whnf⟩
noncomputable def s23s : {x : Scope // x = fscope (stAt 23)} := ⟨_, by conv => rhs; whnf⟩
noncomputable abbrev p23 : Arguments := p23s.1
noncomputable abbrev b23 : List Stmt := b23s.1
noncomputable abbrev s23 : Scope := s23s.1
noncomputable def p25s : {x : Arguments // x = fpar (stAt 25)} := ⟨_, by conv => rhs; whnf⟩
noncomputable def b25s : {x : List Stmt // x = fbody (stAt 25)} := ⟨_, by conv => rhs; whnf⟩
noncomputable def s25s : {x : Scope // x = fscope (stAt 25)} := ⟨_, by conv => rhs; whnf⟩
noncomputable abbrev p25 : Arguments := p25s.1
noncomputable abbrev b25 : List Stmt := b25s.1
noncomputable abbrev s25 : Scope := s25s.1
noncomputable def p26s : {x : Arguments // x = fpar (stAt 26)} := ⟨_, by conv => rhs; whnf⟩
noncomputable def b26s : {x : List Stmt // x = fbody (stAt 26)} := ⟨_, by conv => rhs; whnf⟩
noncomputable def s26s : {x : Scope // x = fscope (stAt 26)} := ⟨_, by conv => rhs; whnf⟩
noncomputable abbrev p26 : Arguments := p26s.1
noncomputable abbrev b26 : List Stmt := b26s.1
noncomputable abbrev s26 : Scope := s26s.1
noncomputable def p27s : {x : Arguments // x = fpar (stAt 27)} := ⟨_, by conv => rhs; whnf⟩
noncomputable def b27s : {x : List Stmt // x = fbody (stAt 27)} := ⟨_, by conv => rhs; whnf⟩
noncomputable def s27s : {x : Scope // x = fscope (stAt 27)} := ⟨_, by conv => rhs; whnf⟩
noncomputable abbrev p27 : Arguments := p27s.1
noncomputable abbrev b27 : List Stmt := b27s.1
noncomputable abbrev s27 : Scope := s27s.1
noncomputable def p11_0s : {x : Arguments // x = fpar (memAt 11 0)} := ⟨_, by conv => rhs; whnf⟩
noncomputable def b11_0s : {x : List Stmt // x = fbody (memAt 11 0)} := ⟨_, by conv => rhs; whnf⟩
noncomputable def s11_0s : {x : Scope // x = fscope (memAt 11 0)} := ⟨_, by conv => rhs; whnf⟩
noncomputable abbrev p11_0 : Arguments := p11_0s.1
noncomputable abbrev b11_0 : List Stmt := b11_0s.1
noncomputable abbrev s11_0 : Scope := s11_0s.1
noncomputable def p11_1s : {x : Arguments // x = fpar (memAt 11 1)} := ⟨_, by conv => rhs; whnf⟩
noncomputable def b11_1s : {x : List Stmt // x = fbody (memAt 11 1)} := ⟨_, by conv => rhs; whnf⟩
noncomputable def s11_1s : {x : Scope // x = fscope (memAt 11 1)} := ⟨_, by conv => rhs; whnf⟩
noncomputable abbrev p11_1 : Arguments := p11_1s.1
noncomputable abbrev b11_1 : List Stmt := b11_1s.1
noncomputable abbrev s11_1 : Scope := s11_1s.1
noncomputable def p11_2s : {x : Arguments // x = fpar (memAt 11 2)} := ⟨_, by conv => rhs; whnf⟩
noncomputable def b11_2s : {x : List Stmt // x = fbody (memAt 11 2)} := ⟨_, by conv => rhs; whnf⟩
noncomputable def s11_2s : {x : Scope // x = fscope (memAt 11 2)} := ⟨_, by conv => rhs; whnf⟩
noncomputable abbrev p11_2 : Arguments := p11_2s.1
noncomputable abbrev b11_2 : List Stmt := b11_2s.1
noncomputable abbrev s11_2 : Scope := s11_2s.1
noncomputable def p11_4s : {x : Arguments // x = fpar (memAt 11 4)} := ⟨_, by conv => rhs; whnf⟩
noncomputable def b11_4s : {x : List Stmt // x = fbody (memAt 11 4)} := ⟨_, by conv => rhs; whnf⟩
noncomputable def s11_4s : {x : Scope // x = fscope (memAt 11 4)} := ⟨_, by conv => rhs; whnf⟩
noncomputable abbrev p11_4 : Arguments := p11_4s.1
noncomputable abbrev b11_4 : List Stmt := b11_4s.1
noncomputable abbrev s11_4 : Scope := s11_4s.1
noncomputable def p11_5s : {x : Arguments // x = fpar (memAt 11 5)} := ⟨_, by conv => rhs; whnf⟩
noncomputable def b11_5s : {x : List Stmt // x = fbody (memAt 11 5)} := ⟨_, by conv => rhs; whnf⟩
noncomputable def s11_5s : {x : Scope // x = fscope (memAt 11 5)} := ⟨_, by conv => rhs; whnf⟩
noncomputable abbrev p11_5 : Arguments := p11_5s.1
noncomputable abbrev b11_5 : List Stmt := b11_5s.1
noncomputable abbrev s11_5 : Scope := s11_5s.1
noncomputable def p11_6s : {x : Arguments // x = fpar (memAt 11 6)} := ⟨_, by conv => rhs; whnf⟩
noncomputable def b11_6s : {x : List Stmt // x = fbody (memAt 11 6)} := ⟨_, by conv => rhs; whnf⟩
noncomputable def s11_6s : {x : Scope // x = fscope (memAt 11 6)} := ⟨_, by conv => rhs; whnf⟩
noncomputable abbrev p11_6 : Arguments := p11_6s.1
noncomputable abbrev b11_6 : List Stmt := b11_6s.1
noncomputable abbrev s11_6 : Scope := s11_6s.1
noncomputable def p11_7s : {x : Arguments // x = fpar (memAt 11 7)} := ⟨_, by conv => rhs; whnf⟩
noncomputable def b11_7s : {x : List Stmt // x = fbody (memAt 11 7)} := ⟨_, by conv => rhs; whnf⟩
noncomputable def s11_7s : {x : Scope // x = fscope (memAt 11 7)} := ⟨_, by conv => rhs; whnf⟩
noncomputable abbrev p11_7 : Arguments := p11_7s.1
noncomputable abbrev b11_7 : List Stmt := b11_7s.1
noncomputable abbrev s11_7 : Scope := s11_7s.1
noncomputable def p11_8s : {x : Arguments // x = fpar (memAt 11 8)} := ⟨_, by conv => rhs; whnf⟩
noncomputable def b11_8s : {x : List Stmt // x = fbody (memAt 11 8)} := ⟨_, by conv => rhs; whnf⟩
noncomputable def s11_8s : {x : Scope // x = fscope (memAt 11 8)} := ⟨_, by conv => rhs; whnf⟩
noncomputable abbrev p11_8 : Arguments := p11_8s.1
noncomputable abbrev b11_8 : List Stmt := b11_8s.1
noncomputable abbrev s11_8 : Scope := s11_8s.1
noncomputable def p12_0s : {x : Arguments // x = fpar (memAt 12 0)} := ⟨_, by conv => rhs; whnf⟩
noncomputable def b12_0s : {x : List Stmt // x = fbody (memAt 12 0)} := ⟨_, by conv => rhs; whnf⟩
noncomputable def s12_0s : {x : Scope // x = fscope (memAt 12 0)} := ⟨_, by conv => rhs; whnf⟩
noncomputable abbrev p12_0 : Arguments := p12_0s.1
noncomputable abbrev b12_0 : List Stmt := b12_0s.1
noncomputable abbrev s12_0 : Scope := s12_0s.1
noncomputable def p12_3s : {x : Arguments // x = fpar (memAt 12 3)} := ⟨_, by conv => rhs; whnf⟩
noncomputable def b12_3s : {x : List Stmt // x = fbody (memAt 12 3)} := ⟨_, by conv => rhs; whnf⟩
noncomputable def s12_3s : {x : Scope // x = fscope (memAt 12 3)} := ⟨_, by conv => rhs; whnf⟩
noncomputable abbrev p12_3 : Arguments := p12_3s.1
noncomputable abbrev b12_3 : List Stmt := b12_3s.1
noncomputable abbrev s12_3 : Scope := s12_3s.1
noncomputable def p17_1s : {x : Arguments // x = fpar (memAt 17 1)} := ⟨_, by conv => rhs; whnf⟩
noncomputable def b17_1s : {x : List Stmt // x = fbody (memAt 17 1)} := ⟨_, by conv => rhs; whnf⟩
noncomputable def s17_1s : {x : Scope // x = fscope (memAt 17 1)} := ⟨_, by conv => rhs; whnf⟩
noncomputable abbrev p17_1 : Arguments := p17_1s.1
noncomputable abbrev b17_1 : List Stmt := b17_1s.1
noncomputable abbrev s17_1 : Scope := s17_1s.1
noncomputable def p17_3s : {x : Arguments // x = fpar (memAt 17 3)} := ⟨_, by conv => rhs; whnf⟩
noncomputable def b17_3s : {x : List Stmt // x = fbody (memAt 17 3)} := ⟨_, by conv => rhs; whnf⟩
noncomputable def s17_3s : {x : Scope // x = fscope (memAt 17 3)} := ⟨_, by conv => rhs; whnf⟩
noncomputable abbrev p17_3 : Arguments := p17_3s.1
noncomputable abbrev b17_3 : List Stmt := b17_3s.1
noncomputable abbrev s17_3 : Scope := s17_3s.1
noncomputable def K : Params → Frag := fun P =>
  (nat_lit 3, { cls := (.type "dict"), data := .dict #[⟨PyData.keyHash P (Str.ofString "__name__"), .str (Str.ofString "__name__") 165, (.str (Str.ofString "law_af0044_01") 868)⟩, ⟨PyData.keyHash P (Str.ofString "__doc__"), .str (Str.ofString "__doc__") 166, .none⟩, ⟨PyData.keyHash P (Str.ofString "__package__"), .str (Str.ofString "__package__") 167, .none⟩, ⟨PyData.keyHash P (Str.ofString "__loader__"), .str (Str.ofString "__loader__") 168, (.builtin "__main__.__loader__#opaque")⟩, ⟨PyData.keyHash P (Str.ofString "__spec__"), .str (Str.ofString "__spec__") 169, .none⟩, ⟨PyData.keyHash P (Str.ofString "__annotations__"), .str (Str.ofString "__annotations__") 170, (.ref 6)⟩, ⟨PyData.keyHash P (Str.ofString "__builtins__"), .str (Str.ofString "__builtins__") 171, (.ref 4)⟩, ⟨PyData.keyHash P (Str.ofString "__file__"), .str (Str.ofString "__file__") 173, (.str (Str.ofString "/claim/cut.py") 172)⟩, ⟨PyData.keyHash P (Str.ofString "__cached__"), .str (Str.ofString "__cached__") 174, .none⟩, ⟨PyData.keyHash P (Str.ofString "bisect_left"), .str (Str.ofString "bisect_left") 306, (.builtin "_bisect.bisect_left")⟩, ⟨PyData.keyHash P (Str.ofString "_wall"), .str (Str.ofString "_wall") 319, (.ref 49)⟩, ⟨PyData.keyHash P (Str.ofString "split_ranges"), .str (Str.ofString "split_ranges") 340, (.ref 56)⟩, ⟨PyData.keyHash P (Str.ofString "iteritems"), .str (Str.ofString "iteritems") 349, (.ref 63)⟩, ⟨PyData.keyHash P (Str.ofString "unichr"), .str (Str.ofString "unichr") 350, (.builtin "chr")⟩, ⟨PyData.keyHash P (Str.ofString "Marker"), .str (Str.ofString "Marker") 388, (.ref 87)⟩, ⟨PyData.keyHash P (Str.ofString "EPSILON"), .str (Str.ofString "EPSILON") 394, (.ref 93)⟩, ⟨PyData.keyHash P (Str.ofString "FSA"), .str (Str.ofString "FSA") 546, (.ref 211)⟩, ⟨PyData.keyHash P (Str.ofString "DFA"), .str (Str.ofString "DFA") 677, (.ref 311)⟩, ⟨PyData.keyHash P (Str.ofString "DMNode"), .str (Str.ofString "DMNode") 730, (.ref 351)⟩, ⟨PyData.keyHash P (Str.ofString "_MAXSIZE"), .str (Str.ofString "_MAXSIZE") 734, (.int 9223372036854775807 733)⟩, ⟨PyData.keyHash P (Str.ofString "_is_int"), .str (Str.ofString "_is_int") 742, (.ref 362)⟩, ⟨PyData.keyHash P (Str.ofString "_count_kind"), .str (Str.ofString "_count_kind") 750, (.ref 369)⟩, ⟨PyData.keyHash P (Str.ofString "count"), .str (Str.ofString "count") 815, (.ref 410)⟩, ⟨PyData.keyHash P (Str.ofString "strings_dfa"), .str (Str.ofString "strings_dfa") 834, (.ref 422)⟩, ⟨PyData.keyHash P (Str.ofString "add_suffix"), .str (Str.ofString "add_suffix") 852, (.ref 429)⟩, ⟨PyData.keyHash P (Str.ofString "b85chars"), .str (Str.ofString "b85chars") 856, (.str (Str.ofString "!$%&*+,-./0123456789:;<=>?@ABCDEFGHIJKLMNOPQRSTUVWXYZ^_abcdefghijklmnopqrstuvwxyz{|}~") 855)⟩, ⟨PyData.keyHash P (Str.ofString "to_base85"), .str (Str.ofString "to_base85") 867, (.ref 437)⟩, ⟨PyData.keyHash P (Str.ofString "_law_kinds"), .str (Str.ofString "_law_kinds") 875, (.ref 444)⟩, ⟨PyData.keyHash P (Str.ofString "_law_term"), .str (Str.ofString "_law_term") 884, (.ref 451)⟩, ⟨PyData.keyHash P (Str.ofString "law"), .str (Str.ofString "law") 890, (.ref 456)⟩] 30 })
  :: (nat_lit 52, { cls := (.type "tuple"), data := .seq #[(.str (Str.ofString "intsize") 325), (.str (Str.ofString "step") 326), (.str (Str.ofString "start") 327), (.str (Str.ofString "end") 328), (.str (Str.ofString "diff") 329), (.str (Str.ofString "mask") 330), (.str (Str.ofString "setbits") 331), (.str (Str.ofString "haslower") 332), (.str (Str.ofString "hasupper") 333), (.str (Str.ofString "not_mask") 334), (.str (Str.ofString "nextstart") 335), (.str (Str.ofString "nextend") 336)] 0 })
  :: (nat_lit 53, { cls := (.type "tuple"), data := .seq #[(.str (Str.ofString "shift") 337)] 0 })
  :: (nat_lit 55, { cls := (.type "code"), data := .fields #[(.str (Str.ofString "split_ranges") 322), (.str (Str.ofString "split_ranges") 323), (.str (Str.ofString "/claim/cut.py") 324), (.int 6 0), (.int 4 0), (.int 0 0), (.int 0 0), (.int 35 0), (.ref 50), (.bool true), (.int 307 0), (.ref 51), .none, (.ref 52), (.ref 53), (.ref 54), (.int 338 0), (.int 6 0), (.str (Str.ofString "/claim/cut.py") 339)] })
  :: (nat_lit 56, { cls := (.type "function"), data := (.func { name := (Str.ofString "split_ranges"), qualname := (Str.ofString "split_ranges"), params := p3, body := .stmts b3, scope := s3, globals := 3, closure := [], defaults := .none, kwdefaults := .none, doc := .none, pyModule := (.str (Str.ofString "whoosh.util.numeric") 320), code := (.ref 55) }) })
  :: (nat_lit 62, { cls := (.type "code"), data := .fields #[(.str (Str.ofString "<lambda>") 343), (.str (Str.ofString "<lambda>") 344), (.str (Str.ofString "/claim/cut.py") 345), (.int 28 0), (.int 1 0), (.int 0 0), (.int 0 0), (.int 3 0), (.ref 57), (.bool true), (.int 307 0), (.ref 58), .none, (.ref 59), (.ref 60), (.ref 61), (.int 347 0), (.int 28 0), (.str (Str.ofString "/claim/cut.py") 348)] })
  :: (nat_lit 63, { cls := (.type "function"), data := (.func { name := (Str.ofString "<lambda>"), qualname := (Str.ofString "<lambda>"), params := p5, body := .expr b5, scope := s5, globals := 3, closure := [], defaults := .none, kwdefaults := .none, doc := .none, pyModule := (.str (Str.ofString "whoosh.compat") 341), code := (.ref 62) }) })
  :: (nat_lit 210, { cls := (.type "dict"), data := .dict #[⟨PyData.keyHash P (Str.ofString "__module__"), .str (Str.ofString "__module__") 402, (.str (Str.ofString "whoosh.automata.fsa") 351)⟩, ⟨PyData.keyHash P (Str.ofString "__firstlineno__"), .str (Str.ofString "__firstlineno__") 406, (.int 39 405)⟩, ⟨PyData.keyHash P (Str.ofString "__init__"), .str (Str.ofString "__init__") 414, (.ref 108)⟩, ⟨PyData.keyHash P (Str.ofString "__len__"), .str (Str.ofString "__len__") 421, (.ref 115)⟩, ⟨PyData.keyHash P (Str.ofString "__eq__"), .str (Str.ofString "__eq__") 432, (.ref 122)⟩, ⟨PyData.keyHash P (Str.ofString "all_states"), .str (Str.ofString "all_states") 442, (.ref 129)⟩, ⟨PyData.keyHash P (Str.ofString "all_labels"), .str (Str.ofString "all_labels") 449, (.ref 136)⟩, ⟨PyData.keyHash P (Str.ofString "get_labels"), .str (Str.ofString "get_labels") 457, (.ref 143)⟩, ⟨PyData.keyHash P (Str.ofString "generate_all"), .str (Str.ofString "generate_all") 467, (.ref 151)⟩, ⟨PyData.keyHash P (Str.ofString "start"), .str (Str.ofString "start") 474, (.ref 158)⟩, ⟨PyData.keyHash P (Str.ofString "next_state"), .str (Str.ofString "next_state") 483, (.ref 165)⟩, ⟨PyData.keyHash P (Str.ofString "is_final"), .str (Str.ofString "is_final") 491, (.ref 172)⟩, ⟨PyData.keyHash P (Str.ofString "add_transition"), .str (Str.ofString "add_transition") 501, (.ref 179)⟩, ⟨PyData.keyHash P (Str.ofString "add_final_state"), .str (Str.ofString "add_final_state") 509, (.ref 186)⟩, ⟨PyData.keyHash P (Str.ofString "to_dfa"), .str (Str.ofString "to_dfa") 516, (.ref 193)⟩, ⟨PyData.keyHash P (Str.ofString "accept"), .str (Str.ofString "accept") 525, (.ref 201)⟩, ⟨PyData.keyHash P (Str.ofString "append"), .str (Str.ofString "append") 534, (.ref 208)⟩, ⟨PyData.keyHash P (Str.ofString "__static_attributes__"), .str (Str.ofString "__static_attributes__") 538, (.ref 209)⟩, ⟨PyData.keyHash P (Str.ofString "__dict__"), .str (Str.ofString "__dict__") 540, (.ref 212)⟩, ⟨PyData.keyHash P (Str.ofString "__weakref__"), .str (Str.ofString "__weakref__") 542, (.ref 213)⟩, ⟨PyData.keyHash P (Str.ofString "__doc__"), .str (Str.ofString "__doc__") 543, .none⟩, ⟨PyData.keyHash P (Str.ofString "__hash__"), .str (Str.ofString "__hash__") 544, .none⟩] 5 })
  :: (nat_lit 211, { cls := (.type "type"), data := (.cls { name := (Str.ofString "FSA"), bases := [(.type "object")], mro := [(.ref 211), (.type "object")], ns := 210, qualname := (Str.ofString "FSA"), hasDict := true, slotNames := [], subclasses := [(.ref 311)], abstract := false, hasDel := false }), slots := #[some (.ref 95), none, some (.str (Str.ofString "FSA") 395), some (.str (Str.ofString "FSA") 403), some (.builtin "object.__new__"), some (.bool true)] })
  :: (nat_lit 228, { cls := (.type "code"), data := .fields #[(.str (Str.ofString "__init__") 559), (.str (Str.ofString "DFA.__init__") 560), (.str (Str.ofString "/claim/cut.py") 561), (.int 106 0), (.int 2 0), (.int 0 0), (.int 0 0), (.int 3 0), (.ref 223), (.bool true), (.int 307 0), (.ref 224), .none, (.ref 225), (.ref 226), (.ref 227), (.int 564 0), (.int 106 0), (.str (Str.ofString "/claim/cut.py") 565)] })
  :: (nat_lit 229, { cls := (.type "function"), data := (.func { name := (Str.ofString "__init__"), qualname := (Str.ofString "DFA.__init__"), params := p11_0, body := .stmts b11_0, scope := s11_0, globals := 3, closure := [], defaults := .none, kwdefaults := .none, doc := .none, pyModule := (.str (Str.ofString "whoosh.automata.fsa") 351), code := (.ref 228) }) })
  :: (nat_lit 235, { cls := (.type "code"), data := .fields #[(.str (Str.ofString "start") 567), (.str (Str.ofString "DFA.start") 568), (.str (Str.ofString "/claim/cut.py") 569), (.int 113 0), (.int 1 0), (.int 0 0), (.int 0 0), (.int 3 0), (.ref 230), (.bool true), (.int 307 0), (.ref 231), .none, (.ref 232), (.ref 233), (.ref 234), (.int 571 0), (.int 113 0), (.str (Str.ofString "/claim/cut.py") 572)] })
  :: (nat_lit 236, { cls := (.type "function"), data := (.func { name := (Str.ofString "start"), qualname := (Str.ofString "DFA.start"), params := p11_1, body := .stmts b11_1, scope := s11_1, globals := 3, closure := [], defaults := .none, kwdefaults := .none, doc := .none, pyModule := (.str (Str.ofString "whoosh.automata.fsa") 351), code := (.ref 235) }) })
  :: (nat_lit 242, { cls := (.type "code"), data := .fields #[(.str (Str.ofString "add_transition") 574), (.str (Str.ofString "DFA.add_transition") 575), (.str (Str.ofString "/claim/cut.py") 576), (.int 116 0), (.int 4 0), (.int 0 0), (.int 0 0), (.int 3 0), (.ref 237), (.bool true), (.int 307 0), (.ref 238), .none, (.ref 239), (.ref 240), (.ref 241), (.int 581 0), (.int 116 0), (.str (Str.ofString "/claim/cut.py") 582)] })
  :: (nat_lit 243, { cls := (.type "function"), data := (.func { name := (Str.ofString "add_transition"), qualname := (Str.ofString "DFA.add_transition"), params := p11_2, body := .stmts b11_2, scope := s11_2, globals := 3, closure := [], defaults := .none, kwdefaults := .none, doc := .none, pyModule := (.str (Str.ofString "whoosh.automata.fsa") 351), code := (.ref 242) }) })
  :: (nat_lit 256, { cls := (.type "code"), data := .fields #[(.str (Str.ofString "add_final_state") 593), (.str (Str.ofString "DFA.add_final_state") 594), (.str (Str.ofString "/claim/cut.py") 595), (.int 122 0), (.int 2 0), (.int 0 0), (.int 0 0), (.int 3 0), (.ref 251), (.bool true), (.int 307 0), (.ref 252), .none, (.ref 253), (.ref 254), (.ref 255), (.int 598 0), (.int 122 0), (.str (Str.ofString "/claim/cut.py") 599)] })
  :: (nat_lit 257, { cls := (.type "function"), data := (.func { name := (Str.ofString "add_final_state"), qualname := (Str.ofString "DFA.add_final_state"), params := p11_4, body := .stmts b11_4, scope := s11_4, globals := 3, closure := [], defaults := .none, kwdefaults := .none, doc := .none, pyModule := (.str (Str.ofString "whoosh.automata.fsa") 351), code := (.ref 256) }) })
  :: (nat_lit 263, { cls := (.type "code"), data := .fields #[(.str (Str.ofString "is_final") 601), (.str (Str.ofString "DFA.is_final") 602), (.str (Str.ofString "/claim/cut.py") 603), (.int 125 0), (.int 2 0), (.int 0 0), (.int 0 0), (.int 3 0), (.ref 258), (.bool true), (.int 307 0), (.ref 259), .none, (.ref 260), (.ref 261), (.ref 262), (.int 606 0), (.int 125 0), (.str (Str.ofString "/claim/cut.py") 607)] })
  :: (nat_lit 264, { cls := (.type "function"), data := (.func { name := (Str.ofString "is_final"), qualname := (Str.ofString "DFA.is_final"), params := p11_5, body := .stmts b11_5, scope := s11_5, globals := 3, closure := [], defaults := .none, kwdefaults := .none, doc := .none, pyModule := (.str (Str.ofString "whoosh.automata.fsa") 351), code := (.ref 263) }) })
  :: (nat_lit 270, { cls := (.type "code"), data := .fields #[(.str (Str.ofString "next_state") 609), (.str (Str.ofString "DFA.next_state") 610), (.str (Str.ofString "/claim/cut.py") 611), (.int 128 0), (.int 3 0), (.int 0 0), (.int 0 0), (.int 3 0), (.ref 265), (.bool true), (.int 307 0), (.ref 266), .none, (.ref 267), (.ref 268), (.ref 269), (.int 616 0), (.int 128 0), (.str (Str.ofString "/claim/cut.py") 617)] })
  :: (nat_lit 271, { cls := (.type "function"), data := (.func { name := (Str.ofString "next_state"), qualname := (Str.ofString "DFA.next_state"), params := p11_6, body := .stmts b11_6, scope := s11_6, globals := 3, closure := [], defaults := .none, kwdefaults := .none, doc := .none, pyModule := (.str (Str.ofString "whoosh.automata.fsa") 351), code := (.ref 270) }) })
  :: (nat_lit 272, { cls := (.type "tuple"), data := .seq #[(.bool false)] 0 })
  :: (nat_lit 278, { cls := (.type "code"), data := .fields #[(.str (Str.ofString "next_valid_string") 619), (.str (Str.ofString "DFA.next_valid_string") 620), (.str (Str.ofString "/claim/cut.py") 621), (.int 132 0), (.int 3 0), (.int 0 0), (.int 0 0), (.int 3 0), (.ref 273), (.bool true), (.int 307 0), (.ref 274), .none, (.ref 275), (.ref 276), (.ref 277), (.int 630 0), (.int 132 0), (.str (Str.ofString "/claim/cut.py") 631)] })
  :: (nat_lit 279, { cls := (.type "function"), data := (.func { name := (Str.ofString "next_valid_string"), qualname := (Str.ofString "DFA.next_valid_string"), params := p11_7, body := .stmts b11_7, scope := s11_7, globals := 3, closure := [], defaults := (.ref 272), kwdefaults := .none, doc := .none, pyModule := (.str (Str.ofString "whoosh.automata.fsa") 351), code := (.ref 278) }) })
  :: (nat_lit 285, { cls := (.type "code"), data := .fields #[(.str (Str.ofString "find_next_edge") 633), (.str (Str.ofString "DFA.find_next_edge") 634), (.str (Str.ofString "/claim/cut.py") 635), (.int 156 0), (.int 4 0), (.int 0 0), (.int 0 0), (.int 3 0), (.ref 280), (.bool true), (.int 307 0), (.ref 281), .none, (.ref 282), (.ref 283), (.ref 284), (.int 643 0), (.int 156 0), (.str (Str.ofString "/claim/cut.py") 644)] })
  :: (nat_lit 286, { cls := (.type "function"), data := (.func { name := (Str.ofString "find_next_edge"), qualname := (Str.ofString "DFA.find_next_edge"), params := p11_8, body := .stmts b11_8, scope := s11_8, globals := 3, closure := [], defaults := .none, kwdefaults := .none, doc := .none, pyModule := (.str (Str.ofString "whoosh.automata.fsa") 351), code := (.ref 285) }) })
  :: (nat_lit 310, { cls := (.type "dict"), data := .dict #[⟨PyData.keyHash P (Str.ofString "__module__"), .str (Str.ofString "__module__") 554, (.str (Str.ofString "whoosh.automata.fsa") 351)⟩, ⟨PyData.keyHash P (Str.ofString "__firstlineno__"), .str (Str.ofString "__firstlineno__") 558, (.int 104 557)⟩, ⟨PyData.keyHash P (Str.ofString "__init__"), .str (Str.ofString "__init__") 566, (.ref 229)⟩, ⟨PyData.keyHash P (Str.ofString "start"), .str (Str.ofString "start") 573, (.ref 236)⟩, ⟨PyData.keyHash P (Str.ofString "add_transition"), .str (Str.ofString "add_transition") 583, (.ref 243)⟩, ⟨PyData.keyHash P (Str.ofString "set_default_transition"), .str (Str.ofString "set_default_transition") 592, (.ref 250)⟩, ⟨PyData.keyHash P (Str.ofString "add_final_state"), .str (Str.ofString "add_final_state") 600, (.ref 257)⟩, ⟨PyData.keyHash P (Str.ofString "is_final"), .str (Str.ofString "is_final") 608, (.ref 264)⟩, ⟨PyData.keyHash P (Str.ofString "next_state"), .str (Str.ofString "next_state") 618, (.ref 271)⟩, ⟨PyData.keyHash P (Str.ofString "next_valid_string"), .str (Str.ofString "next_valid_string") 632, (.ref 279)⟩, ⟨PyData.keyHash P (Str.ofString "find_next_edge"), .str (Str.ofString "find_next_edge") 645, (.ref 286)⟩, ⟨PyData.keyHash P (Str.ofString "reachable_from"), .str (Str.ofString "reachable_from") 654, (.ref 294)⟩, ⟨PyData.keyHash P (Str.ofString "minimize"), .str (Str.ofString "minimize") 661, (.ref 301)⟩, ⟨PyData.keyHash P (Str.ofString "to_dfa"), .str (Str.ofString "to_dfa") 668, (.ref 308)⟩, ⟨PyData.keyHash P (Str.ofString "__static_attributes__"), .str (Str.ofString "__static_attributes__") 674, (.ref 309)⟩, ⟨PyData.keyHash P (Str.ofString "__doc__"), .str (Str.ofString "__doc__") 675, .none⟩] 2 })
  :: (nat_lit 311, { cls := (.type "type"), data := (.cls { name := (Str.ofString "DFA"), bases := [(.ref 211)], mro := [(.ref 311), (.ref 211), (.type "object")], ns := 310, qualname := (Str.ofString "DFA"), hasDict := true, slotNames := [], subclasses := [], abstract := false, hasDel := false }), slots := #[some (.ref 216), none, some (.str (Str.ofString "DFA") 547), some (.str (Str.ofString "DFA") 555), some (.builtin "object.__new__"), some (.bool true)] })
  :: (nat_lit 326, { cls := (.type "code"), data := .fields #[(.str (Str.ofString "__init__") 690), (.str (Str.ofString "DMNode.__init__") 691), (.str (Str.ofString "/claim/cut.py") 692), (.int 183 0), (.int 2 0), (.int 0 0), (.int 0 0), (.int 3 0), (.ref 321), (.bool true), (.int 307 0), (.ref 322), .none, (.ref 323), (.ref 324), (.ref 325), (.int 695 0), (.int 183 0), (.str (Str.ofString "/claim/cut.py") 696)] })
  :: (nat_lit 327, { cls := (.type "function"), data := (.func { name := (Str.ofString "__init__"), qualname := (Str.ofString "DMNode.__init__"), params := p12_0, body := .stmts b12_0, scope := s12_0, globals := 3, closure := [], defaults := .none, kwdefaults := .none, doc := .none, pyModule := (.str (Str.ofString "whoosh.automata.fsa") 351), code := (.ref 326) }) })
  :: (nat_lit 347, { cls := (.type "code"), data := .fields #[(.str (Str.ofString "tuple") 712), (.str (Str.ofString "DMNode.tuple") 713), (.str (Str.ofString "/claim/cut.py") 714), (.int 194 0), (.int 1 0), (.int 0 0), (.int 0 0), (.int 3 0), (.ref 342), (.bool true), (.int 307 0), (.ref 343), .none, (.ref 344), (.ref 345), (.ref 346), (.int 717 0), (.int 194 0), (.str (Str.ofString "/claim/cut.py") 718)] })
  :: (nat_lit 348, { cls := (.type "function"), data := (.func { name := (Str.ofString "tuple"), qualname := (Str.ofString "DMNode.tuple"), params := p12_3, body := .stmts b12_3, scope := s12_3, globals := 3, closure := [], defaults := .none, kwdefaults := .none, doc := .none, pyModule := (.str (Str.ofString "whoosh.automata.fsa") 351), code := (.ref 347) }) })
  :: (nat_lit 350, { cls := (.type "dict"), data := .dict #[⟨PyData.keyHash P (Str.ofString "__module__"), .str (Str.ofString "__module__") 685, (.str (Str.ofString "whoosh.automata.fsa") 351)⟩, ⟨PyData.keyHash P (Str.ofString "__firstlineno__"), .str (Str.ofString "__firstlineno__") 689, (.int 181 688)⟩, ⟨PyData.keyHash P (Str.ofString "__init__"), .str (Str.ofString "__init__") 697, (.ref 327)⟩, ⟨PyData.keyHash P (Str.ofString "__repr__"), .str (Str.ofString "__repr__") 704, (.ref 334)⟩, ⟨PyData.keyHash P (Str.ofString "__hash__"), .str (Str.ofString "__hash__") 711, (.ref 341)⟩, ⟨PyData.keyHash P (Str.ofString "tuple"), .str (Str.ofString "tuple") 719, (.ref 348)⟩, ⟨PyData.keyHash P (Str.ofString "__static_attributes__"), .str (Str.ofString "__static_attributes__") 723, (.ref 349)⟩, ⟨PyData.keyHash P (Str.ofString "__dict__"), .str (Str.ofString "__dict__") 725, (.ref 352)⟩, ⟨PyData.keyHash P (Str.ofString "__weakref__"), .str (Str.ofString "__weakref__") 727, (.ref 353)⟩, ⟨PyData.keyHash P (Str.ofString "__doc__"), .str (Str.ofString "__doc__") 728, .none⟩] 4 })
  :: (nat_lit 351, { cls := (.type "type"), data := (.cls { name := (Str.ofString "DMNode"), bases := [(.type "object")], mro := [(.ref 351), (.type "object")], ns := 350, qualname := (Str.ofString "DMNode"), hasDict := true, slotNames := [], subclasses := [], abstract := false, hasDel := false }), slots := #[some (.ref 314), none, some (.str (Str.ofString "DMNode") 678), some (.str (Str.ofString "DMNode") 686), some (.builtin "object.__new__"), some (.bool true)] })
  :: (nat_lit 368, { cls := (.type "code"), data := .fields #[(.str (Str.ofString "_count_kind") 743), (.str (Str.ofString "_count_kind") 744), (.str (Str.ofString "/claim/cut.py") 745), (.int 202 0), (.int 1 0), (.int 0 0), (.int 0 0), (.int 3 0), (.ref 363), (.bool true), (.int 307 0), (.ref 364), .none, (.ref 365), (.ref 366), (.ref 367), (.int 748 0), (.int 202 0), (.str (Str.ofString "/claim/cut.py") 749)] })
  :: (nat_lit 369, { cls := (.type "function"), data := (.func { name := (Str.ofString "_count_kind"), qualname := (Str.ofString "_count_kind"), params := p16, body := .stmts b16, scope := s16, globals := 3, closure := [], defaults := .none, kwdefaults := .none, doc := .none, pyModule := (.str (Str.ofString "itertools") 731), code := (.ref 368) }) })
  :: (nat_lit 378, { cls := (.type "tuple"), data := .seq #[(.int 0 767), (.int 1 768)] 0 })
  :: (nat_lit 384, { cls := (.type "code"), data := .fields #[(.str (Str.ofString "__init__") 769), (.str (Str.ofString "count.__init__") 770), (.str (Str.ofString "/claim/cut.py") 771), (.int 214 0), (.int 3 0), (.int 0 0), (.int 0 0), (.int 3 0), (.ref 379), (.bool true), (.int 307 0), (.ref 380), .none, (.ref 381), (.ref 382), (.ref 383), (.int 778 0), (.int 214 0), (.str (Str.ofString "/claim/cut.py") 779)] })
  :: (nat_lit 385, { cls := (.type "function"), data := (.func { name := (Str.ofString "__init__"), qualname := (Str.ofString "count.__init__"), params := p17_1, body := .stmts b17_1, scope := s17_1, globals := 3, closure := [], defaults := (.ref 378), kwdefaults := .none, doc := .none, pyModule := (.str (Str.ofString "itertools") 731), code := (.ref 384) }) })
  :: (nat_lit 398, { cls := (.type "code"), data := .fields #[(.str (Str.ofString "__next__") 788), (.str (Str.ofString "count.__next__") 789), (.str (Str.ofString "/claim/cut.py") 790), (.int 229 0), (.int 1 0), (.int 0 0), (.int 0 0), (.int 3 0), (.ref 393), (.bool true), (.int 307 0), (.ref 394), .none, (.ref 395), (.ref 396), (.ref 397), (.int 793 0), (.int 229 0), (.str (Str.ofString "/claim/cut.py") 794)] })
  :: (nat_lit 399, { cls := (.type "function"), data := (.func { name := (Str.ofString "__next__"), qualname := (Str.ofString "count.__next__"), params := p17_3, body := .stmts b17_3, scope := s17_3, globals := 3, closure := [], defaults := .none, kwdefaults := .none, doc := .none, pyModule := (.str (Str.ofString "itertools") 731), code := (.ref 398) }) })
  :: (nat_lit 409, { cls := (.type "dict"), data := .dict #[⟨PyData.keyHash P (Str.ofString "__module__"), .str (Str.ofString "__module__") 758, (.str (Str.ofString "itertools") 731)⟩, ⟨PyData.keyHash P (Str.ofString "__firstlineno__"), .str (Str.ofString "__firstlineno__") 762, (.int 211 761)⟩, ⟨PyData.keyHash P (Str.ofString "__slots__"), .str (Str.ofString "__slots__") 766, (.ref 377)⟩, ⟨PyData.keyHash P (Str.ofString "__init__"), .str (Str.ofString "__init__") 780, (.ref 385)⟩, ⟨PyData.keyHash P (Str.ofString "__iter__"), .str (Str.ofString "__iter__") 787, (.ref 392)⟩, ⟨PyData.keyHash P (Str.ofString "__next__"), .str (Str.ofString "__next__") 795, (.ref 399)⟩, ⟨PyData.keyHash P (Str.ofString "__repr__"), .str (Str.ofString "__repr__") 802, (.ref 406)⟩, ⟨PyData.keyHash P (Str.ofString "__static_attributes__"), .str (Str.ofString "__static_attributes__") 806, (.ref 407)⟩, ⟨PyData.keyHash P (Str.ofString "_cnt"), .str (Str.ofString "_cnt") 808, (.ref 411)⟩, ⟨PyData.keyHash P (Str.ofString "_fast"), .str (Str.ofString "_fast") 810, (.ref 412)⟩, ⟨PyData.keyHash P (Str.ofString "_step"), .str (Str.ofString "_step") 812, (.ref 413)⟩, ⟨PyData.keyHash P (Str.ofString "__doc__"), .str (Str.ofString "__doc__") 813, .none⟩] 5 })
  :: (nat_lit 410, { cls := (.type "type"), data := (.cls { name := (Str.ofString "count"), bases := [(.type "object")], mro := [(.ref 410), (.type "object")], ns := 409, qualname := (Str.ofString "count"), hasDict := false, slotNames := [(Str.ofString "_cnt"), (Str.ofString "_fast"), (Str.ofString "_step")], subclasses := [], abstract := false, hasDel := false }), slots := #[none, none, some (.str (Str.ofString "count") 751), some (.str (Str.ofString "count") 759), some (.builtin "object.__new__"), some (.bool false)] })
  :: (nat_lit 411, { cls := (.type "member_descriptor"), data := .fields #[(.str (Str.ofString "_cnt") 807), (.ref 410), (.builtin "proto.slot"), (.builtin "proto.slot#set"), (.int 2 0)] })
  :: (nat_lit 412, { cls := (.type "member_descriptor"), data := .fields #[(.str (Str.ofString "_fast") 809), (.ref 410), (.builtin "proto.slot"), (.builtin "proto.slot#set"), (.int 1 0)] })
  :: (nat_lit 413, { cls := (.type "member_descriptor"), data := .fields #[(.str (Str.ofString "_step") 811), (.ref 410), (.builtin "proto.slot"), (.builtin "proto.slot#set"), (.int 0 0)] })
  :: (nat_lit 421, { cls := (.type "code"), data := .fields #[(.str (Str.ofString "strings_dfa") 818), (.str (Str.ofString "strings_dfa") 819), (.str (Str.ofString "/claim/cut.py") 820), (.int 239 0), (.int 1 0), (.int 0 0), (.int 0 0), (.int 3 0), (.ref 416), (.bool true), (.int 307 0), (.ref 417), .none, (.ref 418), (.ref 419), (.ref 420), (.int 832 0), (.int 239 0), (.str (Str.ofString "/claim/cut.py") 833)] })
  :: (nat_lit 422, { cls := (.type "function"), data := (.func { name := (Str.ofString "strings_dfa"), qualname := (Str.ofString "strings_dfa"), params := p19, body := .stmts b19, scope := s19, globals := 3, closure := [], defaults := .none, kwdefaults := .none, doc := .none, pyModule := (.str (Str.ofString "whoosh.automata.fsa") 816), code := (.ref 421) }) })
  :: (nat_lit 428, { cls := (.type "code"), data := .fields #[(.str (Str.ofString "add_suffix") 835), (.str (Str.ofString "add_suffix") 836), (.str (Str.ofString "/claim/cut.py") 837), (.int 264 0), (.int 5 0), (.int 0 0), (.int 0 0), (.int 3 0), (.ref 423), (.bool true), (.int 307 0), (.ref 424), .none, (.ref 425), (.ref 426), (.ref 427), (.int 850 0), (.int 264 0), (.str (Str.ofString "/claim/cut.py") 851)] })
  :: (nat_lit 429, { cls := (.type "function"), data := (.func { name := (Str.ofString "add_suffix"), qualname := (Str.ofString "add_suffix"), params := p20, body := .stmts b20, scope := s20, globals := 3, closure := [], defaults := .none, kwdefaults := .none, doc := .none, pyModule := (.str (Str.ofString "whoosh.automata.fsa") 816), code := (.ref 428) }) })
  :: (nat_lit 430, { cls := (.type "tuple"), data := .seq #[(.bool false)] 0 })
  :: (nat_lit 436, { cls := (.type "code"), data := .fields #[(.str (Str.ofString "to_base85") 857), (.str (Str.ofString "to_base85") 858), (.str (Str.ofString "/claim/cut.py") 859), (.int 283 0), (.int 2 0), (.int 0 0), (.int 0 0), (.int 3 0), (.ref 431), (.bool true), (.int 307 0), (.ref 432), .none, (.ref 433), (.ref 434), (.ref 435), (.int 865 0), (.int 283 0), (.str (Str.ofString "/claim/cut.py") 866)] })
  :: (nat_lit 437, { cls := (.type "function"), data := (.func { name := (Str.ofString "to_base85"), qualname := (Str.ofString "to_base85"), params := p23, body := .stmts b23, scope := s23, globals := 3, closure := [], defaults := (.ref 430), kwdefaults := .none, doc := .none, pyModule := (.str (Str.ofString "whoosh.support.base85") 853), code := (.ref 436) }) })
  :: (nat_lit 443, { cls := (.type "code"), data := .fields #[(.str (Str.ofString "_law_kinds") 870), (.str (Str.ofString "_law_kinds") 871), (.str (Str.ofString "/claim/cut.py") 872), (.int 291 0), (.int 0 0), (.int 0 0), (.int 0 0), (.int 3 0), (.ref 438), (.bool true), (.int 307 0), (.ref 439), .none, (.ref 440), (.ref 441), (.ref 442), (.int 873 0), (.int 291 0), (.str (Str.ofString "/claim/cut.py") 874)] })
  :: (nat_lit 444, { cls := (.type "function"), data := (.func { name := (Str.ofString "_law_kinds"), qualname := (Str.ofString "_law_kinds"), params := p25, body := .stmts b25, scope := s25, globals := 3, closure := [], defaults := .none, kwdefaults := .none, doc := .none, pyModule := (.str (Str.ofString "law_af0044_01") 868), code := (.ref 443) }) })
  :: (nat_lit 450, { cls := (.type "code"), data := .fields #[(.str (Str.ofString "_law_term") 876), (.str (Str.ofString "_law_term") 877), (.str (Str.ofString "/claim/cut.py") 878), (.int 293 0), (.int 3 0), (.int 0 0), (.int 0 0), (.int 3 0), (.ref 445), (.bool true), (.int 307 0), (.ref 446), .none, (.ref 447), (.ref 448), (.ref 449), (.int 882 0), (.int 293 0), (.str (Str.ofString "/claim/cut.py") 883)] })
  :: (nat_lit 451, { cls := (.type "function"), data := (.func { name := (Str.ofString "_law_term"), qualname := (Str.ofString "_law_term"), params := p26, body := .stmts b26, scope := s26, globals := 3, closure := [], defaults := .none, kwdefaults := .none, doc := .none, pyModule := (.str (Str.ofString "law_af0044_01") 868), code := (.ref 450) }) })
  :: (nat_lit 455, { cls := (.type "code"), data := .fields #[(.str (Str.ofString "law") 885), (.str (Str.ofString "law") 886), (.str (Str.ofString "/claim/cut.py") 887), (.int 295 0), (.int 1 0), (.int 0 0), (.int 0 0), (.int 3 0), (.ref 452), (.bool true), (.int 307 0), (.ref 453), .none, .none, .none, (.ref 454), (.int 888 0), (.int 295 0), (.str (Str.ofString "/claim/cut.py") 889)] })
  :: (nat_lit 456, { cls := (.type "function"), data := (.func { name := (Str.ofString "law"), qualname := (Str.ofString "law"), params := p27, body := .stmts b27, scope := s27, globals := 3, closure := [], defaults := .none, kwdefaults := .none, doc := .none, pyModule := (.str (Str.ofString "law_af0044_01") 868), code := (.ref 455) }) })
  :: []

noncomputable def KA : List Addr := nat_lit 3 :: nat_lit 52 :: nat_lit 53 :: nat_lit 55 :: nat_lit 56 :: nat_lit 62 :: nat_lit 63 :: nat_lit 210 :: nat_lit 211 :: nat_lit 228 :: nat_lit 229 :: nat_lit 235 :: nat_lit 236 :: nat_lit 242 :: nat_lit 243 :: nat_lit 256 :: nat_lit 257 :: nat_lit 263 :: nat_lit 264 :: nat_lit 270 :: nat_lit 271 :: nat_lit 272 :: nat_lit 278 :: nat_lit 279 :: nat_lit 285 :: nat_lit 286 :: nat_lit 310 :: nat_lit 311 :: nat_lit 326 :: nat_lit 327 :: nat_lit 347 :: nat_lit 348 :: nat_lit 350 :: nat_lit 351 :: nat_lit 368 :: nat_lit 369 :: nat_lit 378 :: nat_lit 384 :: nat_lit 385 :: nat_lit 398 :: nat_lit 399 :: nat_lit 409 :: nat_lit 410 :: nat_lit 411 :: nat_lit 412 :: nat_lit 413 :: nat_lit 421 :: nat_lit 422 :: nat_lit 428 :: nat_lit 429 :: nat_lit 430 :: nat_lit 436 :: nat_lit 437 :: nat_lit 443 :: nat_lit 444 :: nat_lit 450 :: nat_lit 451 :: nat_lit 455 :: nat_lit 456 :: []
theorem K_as : ∀ P, KA = (K P).map (·.1) := fun _ => by kernel_rfl
noncomputable abbrev H : Hook := kmHook K KA K_as [51]

/-! ## the top's run over trees of objects, and what it says of the run itself -/
noncomputable def runG (stop : Thread → Bool) (ok : Thread → Bool) (st : SharedT → Thread → Option (SharedT × Thread)) : Nat → SharedT → Thread → Option SharedT
  | 0, _, _ => none
  | n + 1, s, t => match stop t with
    | true => some s
    | false => match ok t with
      | false => none
      | true => match st s t with
        | some (s', t') => runG stop ok st n s' t'
        | none => none
noncomputable def impG (ex : Thread → Option (List Value)) (st : SharedT → Thread → Option (SharedT × Thread)) : Nat → SharedT → Thread → Option SharedT
  | 0, _, _ => none
  | n + 1, s, t => match ex t with
    | some [] => some s
    | some (_ :: _) => none
    | none => match st s t with
      | some (s', t') => impG ex st n s' t'
      | none => none
theorem runG_of {tb : String → Option Builtin} {p : Program} {w : World} {n₀ : Nat} {ann : Option Value} : ∀ {n : Nat} {s s' : SharedT} {t : Thread},
    runG through (stepOk n₀ ann) (stepT (denote tb) p w) n s t = some s' → topRun tb p w n₀ ann n s.abs t = some s'.abs
  | 0, _, _, _, h => by cases h
  | n + 1, s, s', t, h => by
    unfold runG at h
    unfold topRun
    cases he : through t with
    | true => rw [he] at h; cases h; rfl
    | false =>
      rw [he] at h
      cases hk : stepOk n₀ ann t with
      | false => rw [hk] at h; cases h
      | true =>
        rw [hk] at h
        cases hs : stepT (denote tb) p w s t with
        | none => rw [hs] at h; cases h
        | some r => obtain ⟨s₂, t₂⟩ := r; rw [hs] at h; rw [stepT_spec hs]; exact runG_of h
theorem impG_of {tb : String → Option Builtin} {p : Program} {w : World} : ∀ {n : Nat} {s s' : SharedT} {t : Thread},
    impG Thread.atExitBegin (stepT (denote tb) p w) n s t = some s' → importEnds tb p w n s.abs t = some s'.abs
  | 0, _, _, _, h => by cases h
  | n + 1, s, s', t, h => by
    unfold impG at h
    unfold importEnds
    cases he : t.atExitBegin with
    | some l => rw [he] at h; cases l with
      | nil => cases h; rfl
      | cons => cases h
    | none =>
      rw [he] at h
      cases hs : stepT (denote tb) p w s t with
      | none => rw [hs] at h; cases h
      | some r => obtain ⟨s₂, t₂⟩ := r; rw [hs] at h; rw [stepT_spec hs]; exact impG_of h
/-- the objects into a tree, each place looked at -/
noncomputable def layG : List Obj → Nat → BT → Option BT
  | [], _, t => some t
  | o :: r, n, t => match ((t.ins n o).get n).isSome with
    | true => layG r (n + 1) (t.ins n o)
    | false => none
theorem layG_of {life : Life} : ∀ {l : List Obj} {n : Nat} {t t' : BT}, layG l n t = some t' → (absHeap t' (n + l.length) life).objs = (absHeap t n life).objs ++ l.toArray
  | [], n, t, t', h => by cases h; simp
  | o :: r, n, t, t', h => by
    unfold layG at h
    cases g : ((t.ins n o).get n).isSome with
    | false => rw [g] at h; cases h
    | true =>
      rw [g] at h
      have := layG_of (life := life) h
      rw [absHeap_ins g] at this
      rw [List.length_cons, show n + (r.length + 1) = n + 1 + r.length by omega, this]
      apply Array.ext'
      simp [Heap.push, absHeap]
noncomputable def toG (s : Shared) : Option SharedT := (layG s.heap.objs.toList 0 .nil).map fun t => ⟨t, s.heap.objs.toList.length, s.heap.life, s.gens, s.drawn, s.toks, s.os⟩
theorem toG_of {s : Shared} {r : SharedT} (h : toG s = some r) : r.abs = s := by
  unfold toG at h
  obtain ⟨t, h1, rfl⟩ := Option.map_eq_some_iff.mp h
  have := layG_of (life := s.heap.life) h1
  obtain ⟨⟨objs, life⟩, gens, drawn, toks, os⟩ := s
  show Shared.mk _ _ _ _ _ = _
  rw [Nat.zero_add] at this
  have e0 : (absHeap BT.nil 0 life).objs = #[] := by simp [absHeap, BT.list]
  rw [e0] at this
  have e1 : absHeap t objs.toList.length life = ⟨objs, life⟩ := by
    show Heap.mk _ _ = _
    refine congrArg (Heap.mk · life) ?_
    exact this.trans (by simp)
  rw [e1]

noncomputable def fullG {α β : Type} (ex : Thread → Option (List Value)) (stI stR : World → SharedT → Thread → Option (SharedT × Thread)) (okR : Nat → Option Value → Thread → Bool) (start' : Shared × Thread) (fence' : Shared → Option Shared)
    (stub : Thread) (N : Nat) (good : Shared → Shared → Bool) (ann : Heap → Option Value) (see : Shared → α) (Yf : Shared → β) (w : World) : Option (α × β) :=
  (((toG start'.1).bind fun s => impG ex (stI w) N s start'.2).bind fun s => fence' s.abs).bind fun s₀ =>
    match s₀.heap.isNs mainGlobals && s₀.gens.size == 0 with
    | true => ((toG s₀).bind fun s => runG through (okR s₀.heap.objs.size (ann s₀.heap)) (stR w) N s stub).bind fun s₁ =>
        (fun s₁ : Shared => match good s₀ s₁ with
        | true => some (see s₁, Yf s₁)
        | false => none) s₁.abs
    | false => none
theorem fullG_of {p : Program} {N : Nat} {w : World} {α β : Type} {see : Shared → α} {Yf : Shared → β} {r : α × β}
    (h : fullG Thread.atExitBegin (fun w => stepT (denote treeTable) (opening p) w) (fun w => stepT (denote treeTable) p w) stepOk (start (opening p)) (fenceModules? p) (topStub p) N
      (fun s₀ s₁ => staticsOk (importedModules p.main.body) s₀.heap s₁.heap && namesBound p s₁.heap && gensDone s₁ && laidKept s₀.heap s₁.heap) (fun h => h.nsMap mainGlobals "__annotations__") see Yf w = some r) :
    (openEnds treeTable p w N).map (fun s => (see s, Yf s)) = some r := by
  unfold fullG at h
  obtain ⟨s₀, h1, h⟩ := Option.bind_eq_some_iff.mp h
  obtain ⟨si, h2, h3⟩ := Option.bind_eq_some_iff.mp h1
  obtain ⟨sa, h4, h5⟩ := Option.bind_eq_some_iff.mp h2
  have e1 := impG_of h5
  rw [toG_of h4] at e1
  have e2 : fencedOpening treeTable p w N = some s₀ := by
    unfold fencedOpening
    rw [e1]
    exact h3
  have e3 : topFrom treeTable p w N s₀ = (topFrom treeTable p w N s₀) := rfl
  unfold openEnds
  rw [e2]
  show ((topFrom treeTable p w N s₀).map _) = _
  unfold topFrom
  cases g : (s₀.heap.isNs mainGlobals && s₀.gens.size == 0) with
  | false => rw [g] at h; cases h
  | true =>
    rw [g] at h
    dsimp only at h ⊢
    obtain ⟨s₁, h6, h7⟩ := Option.bind_eq_some_iff.mp h
    obtain ⟨sb, h8, h9⟩ := Option.bind_eq_some_iff.mp h6
    have e4 := runG_of h9
    rw [toG_of h8] at e4
    rw [e4]
    show ((match staticsOk (importedModules p.main.body) s₀.heap s₁.abs.heap && namesBound p s₁.abs.heap && gensDone s₁.abs && laidKept s₀.heap s₁.abs.heap with | true => some s₁.abs | false => none) : Option Shared).map _ = _
    revert h7
    cases (staticsOk (importedModules p.main.body) s₀.heap s₁.abs.heap && namesBound p s₁.abs.heap && gensDone s₁.abs && laidKept s₀.heap s₁.abs.heap) with
    | true => intro h7; exact h7
    | false => intro h7; cases h7

theorem said : PySem.Challenge.rw_af0044_01.wellSaid = true := by decide +kernel

end Mine
set_option compiler.extract_closed false
set_option Elab.async false
set_option maxRecDepth 1000000
set_option maxHeartbeats 0
namespace Mine
noncomputable section
abbrev pw := PySem.Challenge.pw_af0044_01
abbrev loose : List Str := ["_wall", "iteritems", "unichr", "Marker", "EPSILON", "FSA", "DFA", "DMNode", "_MAXSIZE", "_is_int", "_count_kind", "count", "strings_dfa", "add_suffix", "b85chars", "to_base85", "_law_kinds", "_law_term"]
def q : Program := view PySem.Challenge.pw_af0044_01 [0, 3, 27]
def Xt : Shared → Bool := fun s => xlAt q [] s && recOk (RowW.records PySem.Challenge.rw_af0044_01.row.toRowW) s
theorem run (w : World) : fullG Thread.atExitBegin (fun w => stepT (denote treeTable) (opening PySem.Challenge.pw_af0044_01) w) (fun w => stepT (denote treeTable) PySem.Challenge.pw_af0044_01 w) stepOk
    (start (opening PySem.Challenge.pw_af0044_01)) (fenceModules? PySem.Challenge.pw_af0044_01) (topStub PySem.Challenge.pw_af0044_01) 5734
      (fun s₀ s₁ => staticsOk (importedModules PySem.Challenge.pw_af0044_01.main.body) s₀.heap s₁.heap && namesBound PySem.Challenge.pw_af0044_01 s₁.heap && gensDone s₁ && laidKept s₀.heap s₁.heap) (fun h => h.nsMap mainGlobals "__annotations__")
      (fun s => openSeen q loose (importedModules PySem.Challenge.pw_af0044_01.main.body) Xt true s) H.obs w = some (openGood q loose, H.val w) := by
  unfold Xt q
  rw [PySem.W.Fast.te10156331382660048174, PySem.W.Fast.te11892475500146522536, PySem.W.Fast.te14364793385576792824, PySem.W.Fast.te6613529449190102663, PySem.W.Fast.te3805553451399329143,
    PySem.W.Fast.te14289696077712309145, PySem.W.Fast.te1435165496053646825, PySem.W.Fast.te4187177175401517315, PySem.W.Fast.te5923862056798008813, PySem.W.Fast.te8920871248978507458]
  kernel_rfl
theorem left : LeftO PySem.Challenge.rw_af0044_01.row.toRowW.1 q loose Xt H.obs H.val 5734 := fun w => fullG_of (run w)
end
end Mine
open PySem.Calls PyProof.V
set_option Elab.async false
set_option maxRecDepth 1000000
set_option maxHeartbeats 4000000
set_option linter.unusedVariables false
namespace Mine
theorem feed {X g : Prop} (h : X) (k : X → g) : g := k h
theorem xp.{u,v} {α : Type u} {β : Type v} {g : α × β → Prop} (k : ∀ a b, g (a, b)) : ∀ p, g p := fun p => k p.1 p.2
theorem x0_2 {A0 A1 : Prop} {g : Prop} (k : A0 → A1 → g) : (A0 ∧ A1) → g := fun h => k h.1 h.2
theorem x0_3 {A0 A1 A2 : Prop} {g : Prop} (k : A0 → A1 → A2 → g) : (A0 ∧ A1 ∧ A2) → g := fun h => k h.1 h.2.1 h.2.2
theorem x0_4 {A0 A1 A2 A3 : Prop} {g : Prop} (k : A0 → A1 → A2 → A3 → g) : (A0 ∧ A1 ∧ A2 ∧ A3) → g := fun h => k h.1 h.2.1 h.2.2.1 h.2.2.2
theorem x0_5 {A0 A1 A2 A3 A4 : Prop} {g : Prop} (k : A0 → A1 → A2 → A3 → A4 → g) : (A0 ∧ A1 ∧ A2 ∧ A3 ∧ A4) → g := fun h => k h.1 h.2.1 h.2.2.1 h.2.2.2.1 h.2.2.2.2
theorem x0_6 {A0 A1 A2 A3 A4 A5 : Prop} {g : Prop} (k : A0 → A1 → A2 → A3 → A4 → A5 → g) : (A0 ∧ A1 ∧ A2 ∧ A3 ∧ A4 ∧ A5) → g := fun h => k h.1 h.2.1 h.2.2.1 h.2.2.2.1 h.2.2.2.2.1 h.2.2.2.2.2
theorem x0_7 {A0 A1 A2 A3 A4 A5 A6 : Prop} {g : Prop} (k : A0 → A1 → A2 → A3 → A4 → A5 → A6 → g) : (A0 ∧ A1 ∧ A2 ∧ A3 ∧ A4 ∧ A5 ∧ A6) → g := fun h => k h.1 h.2.1 h.2.2.1 h.2.2.2.1 h.2.2.2.2.1 h.2.2.2.2.2.1 h.2.2.2.2.2.2
theorem x0_8 {A0 A1 A2 A3 A4 A5 A6 A7 : Prop} {g : Prop} (k : A0 → A1 → A2 → A3 → A4 → A5 → A6 → A7 → g) : (A0 ∧ A1 ∧ A2 ∧ A3 ∧ A4 ∧ A5 ∧ A6 ∧ A7) → g := fun h => k h.1 h.2.1 h.2.2.1 h.2.2.2.1 h.2.2.2.2.1 h.2.2.2.2.2.1 h.2.2.2.2.2.2.1 h.2.2.2.2.2.2.2
theorem x0_9 {A0 A1 A2 A3 A4 A5 A6 A7 A8 : Prop} {g : Prop} (k : A0 → A1 → A2 → A3 → A4 → A5 → A6 → A7 → A8 → g) : (A0 ∧ A1 ∧ A2 ∧ A3 ∧ A4 ∧ A5 ∧ A6 ∧ A7 ∧ A8) → g := fun h => k h.1 h.2.1 h.2.2.1 h.2.2.2.1 h.2.2.2.2.1 h.2.2.2.2.2.1 h.2.2.2.2.2.2.1 h.2.2.2.2.2.2.2.1 h.2.2.2.2.2.2.2.2
theorem x0_10 {A0 A1 A2 A3 A4 A5 A6 A7 A8 A9 : Prop} {g : Prop} (k : A0 → A1 → A2 → A3 → A4 → A5 → A6 → A7 → A8 → A9 → g) : (A0 ∧ A1 ∧ A2 ∧ A3 ∧ A4 ∧ A5 ∧ A6 ∧ A7 ∧ A8 ∧ A9) → g := fun h => k h.1 h.2.1 h.2.2.1 h.2.2.2.1 h.2.2.2.2.1 h.2.2.2.2.2.1 h.2.2.2.2.2.2.1 h.2.2.2.2.2.2.2.1 h.2.2.2.2.2.2.2.2.1 h.2.2.2.2.2.2.2.2.2
theorem x0_11 {A0 A1 A2 A3 A4 A5 A6 A7 A8 A9 A10 : Prop} {g : Prop} (k : A0 → A1 → A2 → A3 → A4 → A5 → A6 → A7 → A8 → A9 → A10 → g) : (A0 ∧ A1 ∧ A2 ∧ A3 ∧ A4 ∧ A5 ∧ A6 ∧ A7 ∧ A8 ∧ A9 ∧ A10) → g := fun h => k h.1 h.2.1 h.2.2.1 h.2.2.2.1 h.2.2.2.2.1 h.2.2.2.2.2.1 h.2.2.2.2.2.2.1 h.2.2.2.2.2.2.2.1 h.2.2.2.2.2.2.2.2.1 h.2.2.2.2.2.2.2.2.2.1 h.2.2.2.2.2.2.2.2.2.2
theorem x0_14 {A0 A1 A2 A3 A4 A5 A6 A7 A8 A9 A10 A11 A12 A13 : Prop} {g : Prop} (k : A0 → A1 → A2 → A3 → A4 → A5 → A6 → A7 → A8 → A9 → A10 → A11 → A12 → A13 → g) : (A0 ∧ A1 ∧ A2 ∧ A3 ∧ A4 ∧ A5 ∧ A6 ∧ A7 ∧ A8 ∧ A9 ∧ A10 ∧ A11 ∧ A12 ∧ A13) → g := fun h => k h.1 h.2.1 h.2.2.1 h.2.2.2.1 h.2.2.2.2.1 h.2.2.2.2.2.1 h.2.2.2.2.2.2.1 h.2.2.2.2.2.2.2.1 h.2.2.2.2.2.2.2.2.1 h.2.2.2.2.2.2.2.2.2.1 h.2.2.2.2.2.2.2.2.2.2.1 h.2.2.2.2.2.2.2.2.2.2.2.1 h.2.2.2.2.2.2.2.2.2.2.2.2.1 h.2.2.2.2.2.2.2.2.2.2.2.2.2
theorem x0_16 {A0 A1 A2 A3 A4 A5 A6 A7 A8 A9 A10 A11 A12 A13 A14 A15 : Prop} {g : Prop} (k : A0 → A1 → A2 → A3 → A4 → A5 → A6 → A7 → A8 → A9 → A10 → A11 → A12 → A13 → A14 → A15 → g) : (A0 ∧ A1 ∧ A2 ∧ A3 ∧ A4 ∧ A5 ∧ A6 ∧ A7 ∧ A8 ∧ A9 ∧ A10 ∧ A11 ∧ A12 ∧ A13 ∧ A14 ∧ A15) → g := fun h => k h.1 h.2.1 h.2.2.1 h.2.2.2.1 h.2.2.2.2.1 h.2.2.2.2.2.1 h.2.2.2.2.2.2.1 h.2.2.2.2.2.2.2.1 h.2.2.2.2.2.2.2.2.1 h.2.2.2.2.2.2.2.2.2.1 h.2.2.2.2.2.2.2.2.2.2.1 h.2.2.2.2.2.2.2.2.2.2.2.1 h.2.2.2.2.2.2.2.2.2.2.2.2.1 h.2.2.2.2.2.2.2.2.2.2.2.2.2.1 h.2.2.2.2.2.2.2.2.2.2.2.2.2.2.1 h.2.2.2.2.2.2.2.2.2.2.2.2.2.2.2
theorem x1_1.{u0} {α0 : Sort u0} {A0 : α0 → Prop} {g : Prop} (k : ∀ x0, A0 x0 → g) : (∃ x0, A0 x0) → g := fun h => h.elim fun x0 h => k x0 h
theorem x2_1.{u0,u1} {α0 : Sort u0} {α1 : Sort u1} {A0 : α0 → α1 → Prop} {g : Prop} (k : ∀ x0 x1, A0 x0 x1 → g) : (∃ x0 x1, A0 x0 x1) → g := fun h => h.elim fun x0 h => h.elim fun x1 h => k x0 x1 h
theorem x3_1.{u0,u1,u2} {α0 : Sort u0} {α1 : Sort u1} {α2 : Sort u2} {A0 : α0 → α1 → α2 → Prop} {g : Prop} (k : ∀ x0 x1 x2, A0 x0 x1 x2 → g) : (∃ x0 x1 x2, A0 x0 x1 x2) → g := fun h => h.elim fun x0 h => h.elim fun x1 h => h.elim fun x2 h => k x0 x1 x2 h
theorem x4_1.{u0,u1,u2,u3} {α0 : Sort u0} {α1 : Sort u1} {α2 : Sort u2} {α3 : Sort u3} {A0 : α0 → α1 → α2 → α3 → Prop} {g : Prop} (k : ∀ x0 x1 x2 x3, A0 x0 x1 x2 x3 → g) : (∃ x0 x1 x2 x3, A0 x0 x1 x2 x3) → g := fun h => h.elim fun x0 h => h.elim fun x1 h => h.elim fun x2 h => h.elim fun x3 h => k x0 x1 x2 x3 h
theorem x5_1.{u0,u1,u2,u3,u4} {α0 : Sort u0} {α1 : Sort u1} {α2 : Sort u2} {α3 : Sort u3} {α4 : Sort u4} {A0 : α0 → α1 → α2 → α3 → α4 → Prop} {g : Prop} (k : ∀ x0 x1 x2 x3 x4, A0 x0 x1 x2 x3 x4 → g) : (∃ x0 x1 x2 x3 x4, A0 x0 x1 x2 x3 x4) → g := fun h => h.elim fun x0 h => h.elim fun x1 h => h.elim fun x2 h => h.elim fun x3 h => h.elim fun x4 h => k x0 x1 x2 x3 x4 h
theorem x6_1.{u0,u1,u2,u3,u4,u5} {α0 : Sort u0} {α1 : Sort u1} {α2 : Sort u2} {α3 : Sort u3} {α4 : Sort u4} {α5 : Sort u5} {A0 : α0 → α1 → α2 → α3 → α4 → α5 → Prop} {g : Prop} (k : ∀ x0 x1 x2 x3 x4 x5, A0 x0 x1 x2 x3 x4 x5 → g) : (∃ x0 x1 x2 x3 x4 x5, A0 x0 x1 x2 x3 x4 x5) → g := fun h => h.elim fun x0 h => h.elim fun x1 h => h.elim fun x2 h => h.elim fun x3 h => h.elim fun x4 h => h.elim fun x5 h => k x0 x1 x2 x3 x4 x5 h
theorem x7_1.{u0,u1,u2,u3,u4,u5,u6} {α0 : Sort u0} {α1 : Sort u1} {α2 : Sort u2} {α3 : Sort u3} {α4 : Sort u4} {α5 : Sort u5} {α6 : Sort u6} {A0 : α0 → α1 → α2 → α3 → α4 → α5 → α6 → Prop} {g : Prop} (k : ∀ x0 x1 x2 x3 x4 x5 x6, A0 x0 x1 x2 x3 x4 x5 x6 → g) : (∃ x0 x1 x2 x3 x4 x5 x6, A0 x0 x1 x2 x3 x4 x5 x6) → g := fun h => h.elim fun x0 h => h.elim fun x1 h => h.elim fun x2 h => h.elim fun x3 h => h.elim fun x4 h => h.elim fun x5 h => h.elim fun x6 h => k x0 x1 x2 x3 x4 x5 x6 h
theorem x11_1.{u0,u1,u2,u3,u4,u5,u6,u7,u8,u9,u10} {α0 : Sort u0} {α1 : Sort u1} {α2 : Sort u2} {α3 : Sort u3} {α4 : Sort u4} {α5 : Sort u5} {α6 : Sort u6} {α7 : Sort u7} {α8 : Sort u8} {α9 : Sort u9} {α10 : Sort u10} {A0 : α0 → α1 → α2 → α3 → α4 → α5 → α6 → α7 → α8 → α9 → α10 → Prop} {g : Prop} (k : ∀ x0 x1 x2 x3 x4 x5 x6 x7 x8 x9 x10, A0 x0 x1 x2 x3 x4 x5 x6 x7 x8 x9 x10 → g) : (∃ x0 x1 x2 x3 x4 x5 x6 x7 x8 x9 x10, A0 x0 x1 x2 x3 x4 x5 x6 x7 x8 x9 x10) → g := fun h => h.elim fun x0 h => h.elim fun x1 h => h.elim fun x2 h => h.elim fun x3 h => h.elim fun x4 h => h.elim fun x5 h => h.elim fun x6 h => h.elim fun x7 h => h.elim fun x8 h => h.elim fun x9 h => h.elim fun x10 h => k x0 x1 x2 x3 x4 x5 x6 x7 x8 x9 x10 h
theorem ya2 {A0 A1 : Prop} (h0 : A0) (h1 : A1) : A0 ∧ A1 := ⟨h0, h1⟩
theorem ya3 {A0 A1 A2 : Prop} (h0 : A0) (h1 : A1) (h2 : A2) : A0 ∧ A1 ∧ A2 := ⟨h0, h1, h2⟩
theorem ya4 {A0 A1 A2 A3 : Prop} (h0 : A0) (h1 : A1) (h2 : A2) (h3 : A3) : A0 ∧ A1 ∧ A2 ∧ A3 := ⟨h0, h1, h2, h3⟩
theorem ya5 {A0 A1 A2 A3 A4 : Prop} (h0 : A0) (h1 : A1) (h2 : A2) (h3 : A3) (h4 : A4) : A0 ∧ A1 ∧ A2 ∧ A3 ∧ A4 := ⟨h0, h1, h2, h3, h4⟩
theorem ya6 {A0 A1 A2 A3 A4 A5 : Prop} (h0 : A0) (h1 : A1) (h2 : A2) (h3 : A3) (h4 : A4) (h5 : A5) : A0 ∧ A1 ∧ A2 ∧ A3 ∧ A4 ∧ A5 := ⟨h0, h1, h2, h3, h4, h5⟩
theorem ya7 {A0 A1 A2 A3 A4 A5 A6 : Prop} (h0 : A0) (h1 : A1) (h2 : A2) (h3 : A3) (h4 : A4) (h5 : A5) (h6 : A6) : A0 ∧ A1 ∧ A2 ∧ A3 ∧ A4 ∧ A5 ∧ A6 := ⟨h0, h1, h2, h3, h4, h5, h6⟩
theorem ya8 {A0 A1 A2 A3 A4 A5 A6 A7 : Prop} (h0 : A0) (h1 : A1) (h2 : A2) (h3 : A3) (h4 : A4) (h5 : A5) (h6 : A6) (h7 : A7) : A0 ∧ A1 ∧ A2 ∧ A3 ∧ A4 ∧ A5 ∧ A6 ∧ A7 := ⟨h0, h1, h2, h3, h4, h5, h6, h7⟩
theorem ya9 {A0 A1 A2 A3 A4 A5 A6 A7 A8 : Prop} (h0 : A0) (h1 : A1) (h2 : A2) (h3 : A3) (h4 : A4) (h5 : A5) (h6 : A6) (h7 : A7) (h8 : A8) : A0 ∧ A1 ∧ A2 ∧ A3 ∧ A4 ∧ A5 ∧ A6 ∧ A7 ∧ A8 := ⟨h0, h1, h2, h3, h4, h5, h6, h7, h8⟩
theorem ya10 {A0 A1 A2 A3 A4 A5 A6 A7 A8 A9 : Prop} (h0 : A0) (h1 : A1) (h2 : A2) (h3 : A3) (h4 : A4) (h5 : A5) (h6 : A6) (h7 : A7) (h8 : A8) (h9 : A9) : A0 ∧ A1 ∧ A2 ∧ A3 ∧ A4 ∧ A5 ∧ A6 ∧ A7 ∧ A8 ∧ A9 := ⟨h0, h1, h2, h3, h4, h5, h6, h7, h8, h9⟩
theorem ya11 {A0 A1 A2 A3 A4 A5 A6 A7 A8 A9 A10 : Prop} (h0 : A0) (h1 : A1) (h2 : A2) (h3 : A3) (h4 : A4) (h5 : A5) (h6 : A6) (h7 : A7) (h8 : A8) (h9 : A9) (h10 : A10) : A0 ∧ A1 ∧ A2 ∧ A3 ∧ A4 ∧ A5 ∧ A6 ∧ A7 ∧ A8 ∧ A9 ∧ A10 := ⟨h0, h1, h2, h3, h4, h5, h6, h7, h8, h9, h10⟩
theorem ya12 {A0 A1 A2 A3 A4 A5 A6 A7 A8 A9 A10 A11 : Prop} (h0 : A0) (h1 : A1) (h2 : A2) (h3 : A3) (h4 : A4) (h5 : A5) (h6 : A6) (h7 : A7) (h8 : A8) (h9 : A9) (h10 : A10) (h11 : A11) : A0 ∧ A1 ∧ A2 ∧ A3 ∧ A4 ∧ A5 ∧ A6 ∧ A7 ∧ A8 ∧ A9 ∧ A10 ∧ A11 := ⟨h0, h1, h2, h3, h4, h5, h6, h7, h8, h9, h10, h11⟩
theorem ya14 {A0 A1 A2 A3 A4 A5 A6 A7 A8 A9 A10 A11 A12 A13 : Prop} (h0 : A0) (h1 : A1) (h2 : A2) (h3 : A3) (h4 : A4) (h5 : A5) (h6 : A6) (h7 : A7) (h8 : A8) (h9 : A9) (h10 : A10) (h11 : A11) (h12 : A12) (h13 : A13) : A0 ∧ A1 ∧ A2 ∧ A3 ∧ A4 ∧ A5 ∧ A6 ∧ A7 ∧ A8 ∧ A9 ∧ A10 ∧ A11 ∧ A12 ∧ A13 := ⟨h0, h1, h2, h3, h4, h5, h6, h7, h8, h9, h10, h11, h12, h13⟩
theorem ya16 {A0 A1 A2 A3 A4 A5 A6 A7 A8 A9 A10 A11 A12 A13 A14 A15 : Prop} (h0 : A0) (h1 : A1) (h2 : A2) (h3 : A3) (h4 : A4) (h5 : A5) (h6 : A6) (h7 : A7) (h8 : A8) (h9 : A9) (h10 : A10) (h11 : A11) (h12 : A12) (h13 : A13) (h14 : A14) (h15 : A15) : A0 ∧ A1 ∧ A2 ∧ A3 ∧ A4 ∧ A5 ∧ A6 ∧ A7 ∧ A8 ∧ A9 ∧ A10 ∧ A11 ∧ A12 ∧ A13 ∧ A14 ∧ A15 := ⟨h0, h1, h2, h3, h4, h5, h6, h7, h8, h9, h10, h11, h12, h13, h14, h15⟩
theorem y1_1.{u0} {α0 : Sort u0} {A0 : α0 → Prop} (x0 : α0) (h0 : A0 x0) : ∃ x0, A0 x0 := ⟨x0, h0⟩
theorem y2_1.{u0,u1} {α0 : Sort u0} {α1 : Sort u1} {A0 : α0 → α1 → Prop} (x0 : α0) (x1 : α1) (h0 : A0 x0 x1) : ∃ x0 x1, A0 x0 x1 := ⟨x0, x1, h0⟩
theorem y3_1.{u0,u1,u2} {α0 : Sort u0} {α1 : Sort u1} {α2 : Sort u2} {A0 : α0 → α1 → α2 → Prop} (x0 : α0) (x1 : α1) (x2 : α2) (h0 : A0 x0 x1 x2) : ∃ x0 x1 x2, A0 x0 x1 x2 := ⟨x0, x1, x2, h0⟩
theorem y4_1.{u0,u1,u2,u3} {α0 : Sort u0} {α1 : Sort u1} {α2 : Sort u2} {α3 : Sort u3} {A0 : α0 → α1 → α2 → α3 → Prop} (x0 : α0) (x1 : α1) (x2 : α2) (x3 : α3) (h0 : A0 x0 x1 x2 x3) : ∃ x0 x1 x2 x3, A0 x0 x1 x2 x3 := ⟨x0, x1, x2, x3, h0⟩
theorem y5_1.{u0,u1,u2,u3,u4} {α0 : Sort u0} {α1 : Sort u1} {α2 : Sort u2} {α3 : Sort u3} {α4 : Sort u4} {A0 : α0 → α1 → α2 → α3 → α4 → Prop} (x0 : α0) (x1 : α1) (x2 : α2) (x3 : α3) (x4 : α4) (h0 : A0 x0 x1 x2 x3 x4) : ∃ x0 x1 x2 x3 x4, A0 x0 x1 x2 x3 x4 := ⟨x0, x1, x2, x3, x4, h0⟩
theorem y6_1.{u0,u1,u2,u3,u4,u5} {α0 : Sort u0} {α1 : Sort u1} {α2 : Sort u2} {α3 : Sort u3} {α4 : Sort u4} {α5 : Sort u5} {A0 : α0 → α1 → α2 → α3 → α4 → α5 → Prop} (x0 : α0) (x1 : α1) (x2 : α2) (x3 : α3) (x4 : α4) (x5 : α5) (h0 : A0 x0 x1 x2 x3 x4 x5) : ∃ x0 x1 x2 x3 x4 x5, A0 x0 x1 x2 x3 x4 x5 := ⟨x0, x1, x2, x3, x4, x5, h0⟩
theorem y7_1.{u0,u1,u2,u3,u4,u5,u6} {α0 : Sort u0} {α1 : Sort u1} {α2 : Sort u2} {α3 : Sort u3} {α4 : Sort u4} {α5 : Sort u5} {α6 : Sort u6} {A0 : α0 → α1 → α2 → α3 → α4 → α5 → α6 → Prop} (x0 : α0) (x1 : α1) (x2 : α2) (x3 : α3) (x4 : α4) (x5 : α5) (x6 : α6) (h0 : A0 x0 x1 x2 x3 x4 x5 x6) : ∃ x0 x1 x2 x3 x4 x5 x6, A0 x0 x1 x2 x3 x4 x5 x6 := ⟨x0, x1, x2, x3, x4, x5, x6, h0⟩
theorem y9_1.{u0,u1,u2,u3,u4,u5,u6,u7,u8} {α0 : Sort u0} {α1 : Sort u1} {α2 : Sort u2} {α3 : Sort u3} {α4 : Sort u4} {α5 : Sort u5} {α6 : Sort u6} {α7 : Sort u7} {α8 : Sort u8} {A0 : α0 → α1 → α2 → α3 → α4 → α5 → α6 → α7 → α8 → Prop} (x0 : α0) (x1 : α1) (x2 : α2) (x3 : α3) (x4 : α4) (x5 : α5) (x6 : α6) (x7 : α7) (x8 : α8) (h0 : A0 x0 x1 x2 x3 x4 x5 x6 x7 x8) : ∃ x0 x1 x2 x3 x4 x5 x6 x7 x8, A0 x0 x1 x2 x3 x4 x5 x6 x7 x8 := ⟨x0, x1, x2, x3, x4, x5, x6, x7, x8, h0⟩
section Base
noncomputable abbrev prog : Program := PySem.Challenge.rw_af0044_01.row.toRowW.prog
theorem fillIt {P : Prop} (h : (PySem.Challenge.rw_af0044_01, K) = (PySem.Challenge.rw_af0044_01, K) → P) : P := h rfl
noncomputable def Stop (P : Prop) : Prop := P
theorem stop_of {P : Prop} (h : Stop P) : P := h
theorem Stop.out {P : Prop} (h : P) : Stop P := h
noncomputable abbrev Led := List (Addr × Obj)
theorem units_under_make (A : Around) (C : Addr) (vals : List Value) (kw : List (Str × Value)) : (A.under (.builtin "type.__call__" ⟨.ref C :: vals, kw⟩)).units = A.units + 1 := rfl
/-- what a caller's frame must show to a call of one of the text's defs -/
structure Cx (w : World) (A : Around) (h₀ : Heap) (L : Addr) (d : Nat) : Prop where
  X : (K w.params).In h₀
  T : ∃ lo mean mg mb, Top topProg lo mean mg mb h₀
  B : ∃ A₀ base outer env, Below A₀ base outer h₀ ∧ A.frames = some (env :: outer) ∧ env.frame = some L ∧ env.scope.kind = .function
  depth : A.depth + d ≤ 360
  units : A.units + 6 * d ≤ 400
theorem Cx.of {w : World} {A' A₀ : Around} {base h₀ : Heap} {outer : List Env} {env : Env} {L d : Nat} {lo mean mg mb} (B : Below A₀ base outer h₀) (X : (K w.params).In h₀) (T : Top topProg lo mean mg mb h₀) (hA : A'.frames = some (env :: outer)) (hd : A'.depth + d ≤ 360) (hu : A'.units + 6 * d ≤ 400)
    (hf : env.frame = some L) (hk : env.scope.kind = .function) : Cx w A' h₀ L d := ⟨X, ⟨_, _, _, _, T⟩, ⟨_, _, _, _, B, hA, hf, hk⟩, hd, hu⟩
theorem Cx.el {w : World} {A : Around} {h₀ : Heap} {L : Addr} {d : Nat} {g : Prop} (k : ∀ (_ : (K w.params).In h₀) lo mean mg mb (_ : Top topProg lo mean mg mb h₀) A₀ base outer env (_ : Below A₀ base outer h₀) (_ : A.frames = some (env :: outer)) (_ : env.frame = some L) (_ : env.scope.kind = .function) (_ : A.depth + d ≤ 360) (_ : A.units + 6 * d ≤ 400), g) (C : Cx w A h₀ L d) : g :=
  let ⟨X, ⟨lo, mean, mg, mb, T⟩, ⟨A₀, base, outer, env, B, hA, hf, hk⟩, hd, hu⟩ := C
  k X lo mean mg mb T A₀ base outer env B hA hf hk hd hu
/-- everything of the one ledger stands in the other, but what lies at W -/
noncomputable def Keep (W : List Addr) (l l' : Led) : Prop := ∀ p ∈ l, p.1 ∉ W → p ∈ l'
theorem Keep.refl {W : List Addr} (l : Led) : Keep W l l := fun _ hp _ => hp
theorem Keep.trans {W : List Addr} {a b c : Led} (x : Keep W a b) (y : Keep W b c) : Keep W a c := fun p hp hn => y p (x p hp hn) hn
theorem Keep.cons {W : List Addr} {a b : Led} (x : Keep W a b) (q : Addr × Obj) : Keep W a (q :: b) := fun p hp hn => .tail _ (x p hp hn)
theorem Keep.mono {W W' : List Addr} {a b : Led} (x : Keep W a b) (h : ∀ z ∈ W, z ∈ W') : Keep W' a b := fun p hp hn => x p hp fun q => hn (h _ q)
theorem Keep.app {W : List Addr} {a b : Led} {p : Addr × Obj} (x : Keep W a b) (hp : p ∈ a) (hn : p.1 ∉ W) : p ∈ b := x p hp hn
noncomputable def put (a : Addr) (o : Obj) (l : Led) : Led := (a, o) :: l.filter fun p => p.1 != a
theorem mem_put {a : Addr} {o : Obj} {l : Led} : (a, o) ∈ put a o l := .head _
theorem mem_put_of {a b : Addr} {o x : Obj} {l : Led} (h : (b, x) ∈ l) (hn : b ≠ a) : (b, x) ∈ put a o l := .tail _ (List.mem_filter.mpr ⟨h, by simpa using hn⟩)
theorem keep_put {a : Addr} {o : Obj} {l : Led} : Keep [a] l (put a o l) := fun _ hp hn => mem_put_of hp fun e => hn (by rw [e]; exact .head _)
theorem same_at {h₀ h : Heap} {L a : Addr} {l : Led} {o o' : Obj} (N : News h₀ L h l) (x : (a, o) ∈ l) (y : (a, o') ∈ l) : o = o' := by
  have e := (N _ x).1
  rw [(N _ y).1] at e
  exact (Option.some.inj e).symm
theorem ne_of_obj {h₀ h : Heap} {L a b : Addr} {l : Led} {o o' : Obj} (N : News h₀ L h l) (x : (a, o) ∈ l) (y : (b, o') ∈ l) (hn : o ≠ o') : a ≠ b := fun e => by
  subst e; exact hn (same_at N x y)
theorem ne_of_cls {h₀ h : Heap} {L a b : Addr} {l : Led} {o o' : Obj} (N : News h₀ L h l) (x : (a, o) ∈ l) (y : (b, o') ∈ l) (hn : o.cls ≠ o'.cls) : a ≠ b := ne_of_obj N x y fun e => hn (by rw [e])
/-- a heap that differs at one object of the ledger alone -/
theorem led_set {h₀ h h' : Heap} {L d : Addr} {m : Str → Option Value} {l : Led} {o o' : Obj} (F : Fr h₀ L h m) (N : News h₀ L h l) (hm : (d, o) ∈ l) (hs : Heap.SameBut d h h') (ho : h'.get? d = some o') :
    Fr h₀ L h' m ∧ News h₀ L h' (put d o' l) := by
  (refine feed (N _ hm) ?_; refine x0_3 ?_; intro e1 e2 e3)
  refine ⟨⟨F.ns.sameBut hs (Ne.symm e2), fun b x e => (hs.2 b fun q => ?_).trans (F.keep b x e), F.above⟩, fun p hp => ?_⟩
  · rw [q] at e; rw [e] at e3; cases e3
  · rcases List.mem_cons.mp hp with rfl | hp
    · exact ⟨ho, e2, e3⟩
    · (refine feed (List.mem_filter.mp hp) ?_; refine x0_2 ?_; intro h1 h2)
      have hn : p.1 ≠ d := by simpa using h2
      exact ⟨(hs.2 _ hn).trans (N p h1).1, (N p h1).2⟩
/-- a heap that has grown, a new object of it onto the ledger -/
theorem led_new {h₀ h h' : Heap} {L a : Addr} {m : Str → Option Value} {l : Led} {o : Obj} (F : Fr h₀ L h m) (N : News h₀ L h l) (hk : ∀ b x, h.get? b = some x → h'.get? b = some x) (ha : h.objs.size ≤ a) (ho : h'.get? a = some o) :
    Fr h₀ L h' m ∧ News h₀ L h' ((a, o) :: l) := by
  refine ⟨⟨F.ns.keeps hk, fun b x e => hk b x (F.keep b x e), F.above⟩, fun p hp => ?_⟩
  rcases List.mem_cons.mp hp with rfl | hp
  · refine ⟨ho, Nat.ne_of_gt (Nat.lt_of_lt_of_le F.ns.lt ha), ?_⟩
    cases q : h₀.get? a with
    | none => rfl
    | some x => exact absurd (Heap.lt_size (F.keep a x q)) (Nat.not_lt.mpr ha)
  · exact ⟨hk _ _ (N p hp).1, (N p hp).2⟩
theorem led_grow {h₀ h h' : Heap} {L : Addr} {m : Str → Option Value} {l : Led} (F : Fr h₀ L h m) (N : News h₀ L h l) (hk : ∀ b x, h.get? b = some x → h'.get? b = some x) : Fr h₀ L h' m ∧ News h₀ L h' l :=
  ⟨⟨F.ns.keeps hk, fun b x e => hk b x (F.keep b x e), F.above⟩, fun p hp => ⟨hk _ _ (N p hp).1, (N p hp).2⟩⟩
theorem fr_congr {h₀ h : Heap} {L : Addr} {m m' : Str → Option Value} (F : Fr h₀ L h m) (e : ∀ y, m y = m' y) : Fr h₀ L h m' := by
  obtain rfl : m = m' := funext e
  exact F
theorem news_keep {h₀ h : Heap} {L : Addr} {l l' : Led} (N : News h₀ L h l') (k : Keep [] l l') : News h₀ L h l := fun p hp => N p (k p hp (fun h => nomatch h))
theorem focus {h₀ h : Heap} {L d : Addr} {l : Led} {o : Obj} (N : News h₀ L h l) (hm : (d, o) ∈ l) : ∃ r, News h₀ L h ((d, o) :: r) ∧ (∀ p ∈ r, p.1 ≠ d) ∧ (∀ p ∈ l, p.1 ≠ d → p ∈ r) ∧ (∀ p ∈ r, p ∈ l) := by
  refine y1_1 (l.filter fun p => p.1 != d) (ya4 (fun p hp => ?_) (fun p hp => ?_) (fun p hp hn => List.mem_filter.mpr ⟨hp, by simpa using hn⟩) (fun p hp => (List.mem_filter.mp hp).1))
  · rcases List.mem_cons.mp hp with rfl | hp
    · exact N _ hm
    · exact N p (List.mem_filter.mp hp).1
  · simpa using (List.mem_filter.mp hp).2
theorem allLt_ne {d : Addr} : ∀ {l : Led}, AllLt d l → ∀ p ∈ l, p.1 ≠ d
  | [], _, _, hp => nomatch hp
  | _ :: _, h, p, hp => by
    rcases List.mem_cons.mp hp with rfl | hp
    · exact Nat.ne_of_lt h.1
    · exact allLt_ne h.2 p hp
theorem allLt_all {d : Addr} : ∀ {l : Led}, AllLt d l → ∀ p ∈ l, p.1 < d
  | [], _, _, hp => nomatch hp
  | _ :: _, h, p, hp => by
    rcases List.mem_cons.mp hp with rfl | hp
    · exact h.1
    · exact allLt_all h.2 p hp
theorem ne_of_all {d B : Addr} {o : Obj} {l : Led} (h : ∀ p : Addr × Obj, p ∈ l → p.1 < B) (m : (d, o) ∈ l) : B ≠ d := Nat.ne_of_gt (h _ m)
theorem ne_of_allLt {d B : Addr} {o : Obj} {l : Led} (h : AllLt B l) (m : (d, o) ∈ l) : B ≠ d := fun e => allLt_ne h _ m e.symm
theorem allLt_le {d e : Addr} (hde : d ≤ e) : ∀ {l : Led}, AllLt d l → AllLt e l
  | [], _ => trivial
  | _ :: _, h => ⟨Nat.lt_of_lt_of_le h.1 hde, allLt_le hde h.2⟩
/-! ## loops: what holds is said of a datum, the frame's names are read off it -/
noncomputable def Tracked (o : Obj) : Prop := o.cls = .type "list" ∨ o.cls = .type "dict" ∨ o.cls = .type "tuple" ∨ o.cls = .type "set" ∨ o.cls = .type "generator" ∨ o.cls = .type "cell" ∨ o.cls = .none ∨ ∃ a, o.cls = .ref a
section
variable {w : World} {A : Around} {E : Value → Shared → Prop} {s : Shared} {env : Env} {h₀ : Heap} {x : Str} {body : List Stmt} {Q : Flow → Shared → Prop} {α : Type}
noncomputable def VEnd (h₀ : Heap) (L : Addr) (x : Str) (mk : α → Str → Option Value) (Inv : α → Led → Prop) (own : Led) (s₁ s₂ : Shared) : Prop :=
  ∃ h' tk st nw m', s₂ = { s₁ with heap := h', toks := tk } ∧ Fr h₀ L h' m' ∧ News h₀ L h' nw ∧ (∀ p ∈ own, p ∈ nw) ∧ Inv st nw ∧ ∀ y, y ≠ x → m' y = mk st y
noncomputable def VPost (h₀ : Heap) (L : Addr) (x : Str) (mk : α → Str → Option Value) (Inv : α → Led → Prop) (own : Led) (s₁ : Shared) (Q : Flow → Shared → Prop) (f : Flow) (s₂ : Shared) : Prop :=
  match f with
  | .ret v => Q (.ret v) s₂
  | .brk => Q .next s₂
  | _ => VEnd h₀ L x mk Inv own s₁ s₂
theorem loop_V {b₀ : Nat} {I : Addr} {fp wr : List Addr} {n : Nat} {P : Nat → Value → Prop} {St : Nat → Heap → Prop} {m₀ : Str → Option Value} {nw : Led} (mk : α → Str → Option Value) (Inv : Nat → α → Led → Prop)
    (W : Walks prog w A I fp wr n P St) (hLf : env.locals ∉ fp) (hwr : ∀ b ∈ wr, h₀.get? b = none) (hnw : ∀ p ∈ nw, p.1 ∉ wr) (hunt : ∀ i h, St i h → ∀ b ∈ wr, ∀ o, h.get? b = some o → ¬ Tracked o) (hlive : ∀ i h, St i h → ∀ b ∈ wr, ∃ o, h.get? b = some o)
    (hwb : ∀ z ∈ wr, b₀ ≤ z) (mono : ∀ i st l l', (∀ p ∈ l, (Tracked p.2 ∨ p.1 < b₀) → p ∈ l') → Inv i st l → Inv i st l')
    (hst : St 0 s.heap) (F : Fr h₀ env.locals s.heap m₀) (N : News h₀ env.locals s.heap nw) (st₀ : α) (h0 : Inv 0 st₀ nw) (hm0 : ∀ y, y ≠ x → m₀ y = mk st₀ y)
    (turn : ∀ i v st h tk nw₁ own, i < n → P i v → Inv i st nw₁ → (∀ p ∈ own, p ∈ nw₁) → (∀ p ∈ own, p.1 ∈ fp) → Fr h₀ env.locals h (fun y => if y = x then some v else mk st y) → News h₀ env.locals h nw₁ →
      wpAny (model prog w) A (execs body env) (VPost h₀ env.locals x mk (Inv (i + 1)) own { s with heap := h, toks := tk } Q) E { s with heap := h, toks := tk })
    (done : ∀ st h tk nw₁ u, Inv n st nw₁ → Fr h₀ env.locals h (fun y => if y = x then u else mk st y) → News h₀ env.locals h nw₁ → Q .next { s with heap := h, toks := tk }) :
    LoopAtV prog w A h₀ env x body Q E (.ref I) s := by
  let J : Nat → (Str → Option Value) → Led → Prop := fun i m₁ l => ∃ st, Inv i st l ∧ ∀ y, y ≠ x → m₁ y = mk st y
  refine y9_1 I fp wr n P St m₀ nw J (ya11 rfl W hLf hwr hnw hst F N ⟨st₀, h0, hm0⟩ ?_ ?_)
  · (intro i v m₁ news₁ s₁ own; refine x2_1 ?_; intro hh' tk'; intro zz9; subst zz9; intro hin hP; refine x1_1 ?_; intro st; refine x0_2 ?_; intro hI hm; intro hoff hown hownh hall hst' F₁ N₁)
    have e : ∀ y, (fun y => if y = x then some v else m₁ y) y = (fun y => if y = x then some v else mk st y) y := by
      intro y
      by_cases h1 : y = x
      · simp [h1]
      · simp only [if_neg h1]; exact hm y h1
    have F₂ := fr_congr F₁ e
    refine wpAny_mono (turn i v st hh' tk' (own ++ news₁) own hin hP (mono _ _ _ _ (fun p hp _ => List.mem_append_right _ hp) hI) (fun p hp => List.mem_append_left _ hp) hown F₂ N₁) (fun f s₂ p => ?_) fun _ _ e => e
    have fin : VEnd h₀ env.locals x mk (Inv (i + 1)) own { s with heap := hh', toks := tk' } s₂ → LoopStepU h₀ env.locals wr own (J (i + 1)) { s with heap := hh', toks := tk' } .next s₂ := by
      (refine x5_1 ?_; intro h' tk st' nw' m'; refine x0_6 ?_; intro zz9; subst zz9; intro F' N' ho hI' hm')
      refine ⟨rfl, h', tk, m', nw'.filter (fun p => !(wr.contains p.1)), rfl, F', fun p hp => ?_, fun p hp => ?_, st', mono _ _ _ _ (fun p hp ht => List.mem_filter.mpr ⟨hp, ?_⟩) hI', hm'⟩
      · rcases List.mem_append.mp hp with hp | hp
        · exact N' p (ho p hp)
        · exact N' p (List.mem_filter.mp hp).1
      · have := (List.mem_filter.mp hp).2
        simpa using this
      · cases hc : wr.contains p.1 with
        | false => rfl
        | true =>
          exfalso
          have hw : p.1 ∈ wr := by simpa using hc
          -- the object there is the iterator's own
          have hs : ∃ o, (p.1, o) ∈ own := by
            cases hq : hh'.get? p.1 with
            | none =>
              exfalso
              have hx : ∃ o, hh'.get? p.1 = some o := ?_
              (revert hx; refine x1_1 ?_; intro o ho)
              rw [hq] at ho; cases ho
              exact hlive _ _ hst' _ hw
            | some o => exact y1_1 o (hall _ (W.sub _ hw) (hwr _ hw) o hq)
          (revert hs; refine x1_1 ?_; intro o hmo)
          have h1 := hownh _ hmo
          have h2 := hunt _ _ hst' _ hw o h1
          have h3 := (N' _ (ho _ hmo)).1
          rw [(N' _ hp).1] at h3
          rcases ht with ht | ht
          · exact h2 ((Option.some.inj h3 : p.2 = o) ▸ ht)
          · exact absurd ht (Nat.not_lt.mpr (hwb _ hw))
    cases f with
    | ret v => exact .ret p
    | brk => exact .brk p
    | next => exact .next (fin p)
    | cont => exact .cont (fin p)
  · (intro h' tk m' news' F' N' _; refine x1_1 ?_; intro st; refine x0_2 ?_; intro hI hm)
    refine done st h' tk news' (m' x) hI (fr_congr F' fun y => ?_) N'
    by_cases h1 : y = x
    · simp [h1]
    · simp only [if_neg h1]; exact hm y h1
/-- names laid over a frame's names -/
noncomputable def over : List (Str × Value) → (Str → Option Value) → Str → Option Value
  | [], m, y => m y
  | p :: r, m, y => if y = p.1 then some p.2 else over r m y
theorem over_self {m : Str → Option Value} : ∀ {l : List (Str × Value)}, (∀ p ∈ l, m p.1 = some p.2) → ∀ y, m y = over l m y
  | [], _, _ => rfl
  | p :: r, h, y => by
    unfold over
    by_cases e : y = p.1
    · rw [if_pos e, e]; exact h p (.head _)
    · rw [if_neg e]; exact over_self (fun q hq => h q (.tail _ hq)) y
/-- the frame of a call, opened: the parameters alone -/
theorem fr_open {g h : Heap} {L : Addr} {m : Str → Option Value} (nms : List (Str × Value)) {P : Prop} (F : Fr g L h m) (hn : ∀ p ∈ nms, m p.1 = some p.2) (k : ∀ m₀, Fr g L h (over nms m₀) → P) : P := k m (fr_congr F (over_self hn))
/-- a range's turns -/
theorem iter_range_V {r : Addr} {a₀ b₀ : Int} {t₀ u₀ v₀ : Tok} {n : Nat} {m₀ : Str → Option Value} {nw : Led} (mk : α → Str → Option Value) (Inv : Nat → α → Led → Prop)
    (mono : ∀ i st l l', (∀ p ∈ l, (Tracked p.2 ∨ p.1 < s.heap.objs.size) → p ∈ l') → Inv i st l → Inv i st l') (st₀ : α) (h0 : Inv 0 st₀ nw) (hm0 : ∀ y, y ≠ x → m₀ y = mk st₀ y)
    (hh : A.handled = none) (hr : IsRange s.heap r a₀ b₀ 1 t₀ u₀ v₀) (hsmall : Builtin.Range.small a₀ b₀ 1 = true) (hn : Builtin.Range.rangeSize a₀ b₀ 1 = (n : Int)) (F : Fr h₀ env.locals s.heap m₀) (N : News h₀ env.locals s.heap nw)
    (turn : ∀ i t st h tk nw₁ own, i < n → Inv i st nw₁ → (∀ p ∈ own, p ∈ nw₁) → (∀ p ∈ own, p.1 = s.heap.objs.size) → Fr h₀ env.locals h (fun y => if y = x then some (.int (a₀ + (i : Int)) t) else mk st y) → News h₀ env.locals h nw₁ →
      wpAny (model prog w) A (execs body env) (VPost h₀ env.locals x mk (Inv (i + 1)) own { s with heap := h, toks := tk } Q) E { s with heap := h, toks := tk })
    (done : ∀ st h tk nw₁ u, Inv n st nw₁ → Fr h₀ env.locals h (fun y => if y = x then u else mk st y) → News h₀ env.locals h nw₁ → Q .next { s with heap := h, toks := tk }) :
    wpAny (model prog w) A (pyIter (.ref r)) (fun it s₂ => LoopAtV prog w A h₀ env x body Q E it s₂) E s := by
  refine wpAny_pyIter_range hr hsmall ?_
  have W : Walks prog w A s.heap.objs.size [s.heap.objs.size] [s.heap.objs.size] n (fun i v => ∃ t, v = .int (a₀ + i * 1) t)
      (fun i h => IsRangeIter h s.heap.objs.size (a₀ + (i : Nat) * 1) ((n : Int) - (i : Nat)) 1) := Walks.range hh _ a₀ 1 n
  refine loop_V (nw := nw) (b₀ := s.heap.objs.size) mk Inv W ?_ ?_ ?_ ?_ ?_ (fun z hz => Nat.le_of_eq (List.mem_singleton.mp hz).symm) mono (by show IsRangeIter _ _ _ _ _; rw [hn]; simpa using Heap.get?_push_size _ rfl) (F.push _) (fun p hp => ⟨Heap.get?_push_of_some _ (N p hp).1, (N p hp).2⟩) st₀ h0 hm0 ?_ ?_
  · intro hm
    exact absurd F.ns.lt ((List.mem_singleton.mp hm) ▸ Nat.lt_irrefl _)
  · intro b hb
    rw [List.mem_singleton.mp hb]
    exact next_is_new F
  · intro p hp hI
    exact absurd (Heap.lt_size (N p hp).1) ((List.mem_singleton.mp hI) ▸ Nat.lt_irrefl _)
  · intro i h st b hb o ho
    rw [List.mem_singleton.mp hb, show h.get? s.heap.objs.size = _ from st] at ho
    cases ho
    rintro (q | q | q | q | q | q | q | ⟨_, q⟩) <;> simp at q
  · intro i h st b hb
    rw [List.mem_singleton.mp hb]
    exact y1_1 _ st
  · (intro i v st h tk nw₁ own hi; refine x1_1 ?_; intro t; intro zz9; subst zz9; intro hI ho hown F₁ N₁)
    rw [Int.mul_one] at F₁
    exact turn i t st h tk nw₁ own hi hI ho (fun p hp => List.mem_singleton.mp (hown p hp)) F₁ N₁
  · exact done
/-- a turn's end: the datum, its names in the frame, the other names as they were -/
noncomputable def OEnd (h₀ : Heap) (L : Addr) (x : Str) (names : α → List (Str × Value)) (m₀ : Str → Option Value) (Inv : α → Led → Prop) (own : Led) (s₁ s₂ : Shared) : Prop :=
  ∃ h' tk st nw m', s₂ = { s₁ with heap := h', toks := tk } ∧ Fr h₀ L h' m' ∧ News h₀ L h' nw ∧ (∀ p ∈ own, p ∈ nw) ∧ Inv st nw ∧ (∀ p ∈ names st, m' p.1 = some p.2) ∧ ∀ y, y ≠ x → (∀ p ∈ names st, y ≠ p.1) → m' y = m₀ y
noncomputable def OPost (h₀ : Heap) (L : Addr) (x : Str) (names : α → List (Str × Value)) (m₀ : Str → Option Value) (Inv : α → Led → Prop) (own : Led) (s₁ : Shared) (Q : Flow → Shared → Prop) (f : Flow) (s₂ : Shared) : Prop :=
  match f with
  | .ret v => Q (.ret v) s₂
  | .brk => Q .next s₂
  | _ => OEnd h₀ L x names m₀ Inv own s₁ s₂
theorem OPost.intro {L : Addr} {names : α → List (Str × Value)} {m₀ m' : Str → Option Value} {Inv : α → Led → Prop} {own nw : Led} {s₁ : Shared} {h' : Heap} {tk : Nat} (st : α) (F : Fr h₀ L h' m') (N : News h₀ L h' nw) (ho : ∀ p ∈ own, p ∈ nw) (hn : ∀ p ∈ names st, m' p.1 = some p.2)
    (hr : ∀ y, y ≠ x → (∀ p ∈ names st, y ≠ p.1) → m' y = m₀ y) (hI : Inv st nw) : OPost h₀ L x names m₀ Inv own s₁ Q .next { s₁ with heap := h', toks := tk } := ⟨h', tk, st, nw, m', rfl, F, N, ho, hI, hn, hr⟩
theorem over_of {m' m : Str → Option Value} {x : Str} : ∀ {l : List (Str × Value)}, (∀ p ∈ l, m' p.1 = some p.2) → (∀ y, y ≠ x → (∀ p ∈ l, y ≠ p.1) → m' y = m y) → ∀ y, y ≠ x → m' y = over l m y
  | [], _, h, y, hy => h y hy fun _ hp => nomatch hp
  | p :: r, h1, h2, y, hy => by
    unfold over
    by_cases e : y = p.1
    · rw [if_pos e, e]; exact h1 p (.head _)
    · rw [if_neg e]
      have key : ∀ {l : List (Str × Value)}, (∀ q ∈ l, m' q.1 = some q.2) → ((∀ q ∈ l, y ≠ q.1) → m' y = m y) → m' y = over l m y := by
        intro l
        induction l with
        | nil => intro _ h; exact h fun _ hq => nomatch hq
        | cons q l ih =>
          intro ha hb
          unfold over
          by_cases e' : y = q.1
          · rw [if_pos e', e']; exact ha q (.head _)
          · rw [if_neg e']
            exact ih (fun z hz => ha z (.tail _ hz)) fun hz => hb fun z hz' => by
              rcases List.mem_cons.mp hz' with rfl | hz'
              · exact e'
              · exact hz z hz'
      exact key (fun q hq => h1 q (.tail _ hq)) fun hz => h2 y hy fun z hz' => by
        rcases List.mem_cons.mp hz' with rfl | hz'
        · exact e
        · exact hz z hz'
theorem OEnd.toV {L : Addr} {names : α → List (Str × Value)} {m₀ : Str → Option Value} {Inv : α → Led → Prop} {own : Led} {s₁ s₂ : Shared} (h : OEnd h₀ L x names m₀ Inv own s₁ s₂) : VEnd h₀ L x (fun st => over (names st) m₀) Inv own s₁ s₂ := by
  (revert h; refine x5_1 ?_; intro h' tk st nw m'; refine x0_7 ?_; intro e F N ho hI h1 h2)
  exact y5_1 h' tk st nw m' (ya6 e F N ho hI (over_of h1 h2))
theorem OPost.toV {L : Addr} {names : α → List (Str × Value)} {m₀ : Str → Option Value} {Inv : α → Led → Prop} {own : Led} {s₁ : Shared} {f : Flow} {s₂ : Shared} (h : OPost h₀ L x names m₀ Inv own s₁ Q f s₂) : VPost h₀ L x (fun st => over (names st) m₀) Inv own s₁ Q f s₂ := by
  cases f with
  | ret v => exact h
  | brk => exact h
  | next => exact OEnd.toV h
  | cont => exact OEnd.toV h
theorem keep_mono {W : List Addr} {h : Heap} {L : Addr} {nw l l' : Led} (N : News h₀ L h nw) (hs : ∀ p ∈ l, (Tracked p.2 ∨ p.1 < h.objs.size) → p ∈ l') (k : Keep W nw l) : Keep W nw l' :=
  fun p hp hn => hs p (k p hp hn) (.inr (Heap.lt_size (N p hp).1))
theorem iter_range_O {r : Addr} {a₀ b₀ : Int} {t₀ u₀ v₀ : Tok} {n : Nat} {m₀ : Str → Option Value} {nw : Led} (W : List Addr) (names : α → List (Str × Value)) (Inv : Nat → α → Led → Prop) (st₀ : α)
    (hh : A.handled = none) (hr : IsRange s.heap r a₀ b₀ 1 t₀ u₀ v₀) (hsmall : Builtin.Range.small a₀ b₀ 1 = true) (hn : Builtin.Range.rangeSize a₀ b₀ 1 = (n : Int)) (F : Fr h₀ env.locals s.heap m₀) (N : News h₀ env.locals s.heap nw)
    (mono : ∀ i st l l', (∀ p ∈ l, Tracked p.2 → p ∈ l') → Inv i st l → Inv i st l') (h0 : Inv 0 st₀ nw) (hm0 : ∀ p ∈ names st₀, m₀ p.1 = some p.2)
    (turn : ∀ i t st h tk nw₁ own, i < n → Inv i st nw₁ → Keep W nw nw₁ → (∀ p ∈ own, p ∈ nw₁) → (∀ p ∈ own, p.1 = s.heap.objs.size) → Fr h₀ env.locals h (fun y => if y = x then some (.int (a₀ + (i : Int)) t) else over (names st) m₀ y) → News h₀ env.locals h nw₁ →
      wpAny (model prog w) A (execs body env) (OPost h₀ env.locals x names m₀ (fun st l => Inv (i + 1) st l ∧ Keep W nw l) own { s with heap := h, toks := tk } Q) E { s with heap := h, toks := tk })
    (done : ∀ st h tk nw₁ u, Inv n st nw₁ → Keep W nw nw₁ → Fr h₀ env.locals h (fun y => if y = x then u else over (names st) m₀ y) → News h₀ env.locals h nw₁ → Q .next { s with heap := h, toks := tk }) :
    wpAny (model prog w) A (pyIter (.ref r)) (fun it s₂ => LoopAtV prog w A h₀ env x body Q E it s₂) E s :=
  iter_range_V (fun st => over (names st) m₀) (fun i st l => Inv i st l ∧ Keep W nw l) (fun i st l l' hs hI => ⟨mono i st l l' (fun p hp ht => hs p hp (.inl ht)) hI.1, keep_mono N hs hI.2⟩) st₀ ⟨h0, .refl _⟩ (fun y _ => over_self hm0 y) hh hr hsmall hn F N
    (fun i t st h tk nw₁ own a b c d e f => wpAny_mono (turn i t st h tk nw₁ own a b.1 b.2 c d e f) (fun _ _ x => x.toV) fun _ _ x => x) fun st h tk nw₁ u hI => done st h tk nw₁ u hI.1 hI.2
end
end Base
local macro_rules | `(tactic| k_room) => `(tactic| k_extra "base:k_room")
local macro_rules | `(tactic| k_mem) => `(tactic| k_extra "base:k_mem")
local macro_rules | `(tactic| k_all) => `(tactic| k_extra "base:k_all")
local macro_rules | `(tactic| walk_at $s:str) => do
  let k := Lean.Syntax.mkStrLit ("base:" ++ s.getString)
  `(tactic| k_extra $k)
example : True := by
  (k_with "base:pyIter ref" => refine stop_of ?_)
  (k_with "base:eval Name" => k_here; k_dflt (refine' nameX_L (by k_asm) (by exact Eq.refl (some _)) ?_ (by rfl) (by rfl); k_whole))
  (k_with "base:k_room" => (try simp only [depth_under_make, depth_under_kw, depth_in1, depth_deeper, depth_caller]); (refine Nat.lt_of_le_of_lt (m := 390) ?_ (by decide)); lia)
  (k_with "base:m_names" => repeat (first | exact List.forall_mem_nil _ | (refine List.forall_mem_cons.mpr (And.intro ?_ ?_); rfl)))
  (k_with "base:m_rest" => intro y hy hz; (simp only [List.forall_mem_cons] at hz); (try simp only [hy, hz, if_false]); done)
  (k_with "base:m_enter" => k_dflt (refine' code_def (by k_asm) (by k_asm) (by k_asm) (by k_asm) (by k_asm) (by assumption) (by assumption) (by assumption) (by k_is) (by k_is) (by k_room) (by first | exact BindsTo.of_eq rfl | exact binds_K (by k_in) rfl (by k_is) rfl rfl rfl) (by exact locs rfl) ?_ (by exact rfl) (by exact rfl) (by exact rfl) (by decide)))
  (k_with "base:m_hh" => first | assumption | (show Around.handled _ = none; assumption) | rfl)
  (k_with "base:m_frames" => first | assumption | (refine (Around.frames_deeper (by assumption)).trans rfl) | exact Around.frames_deeper (by assumption))
  (k_with "base:m_cx" => refine' Cx.of (by k_asm) (by k_in) (by k_asm) (by walk_at "m_frames") (by ((try simp only [depth_under_make, depth_under_kw, depth_in1, depth_deeper, depth_caller]); lia)) (by ((try simp only [units_under_make, Around.in1_units, Around.deeper_units, Around.mark_units]); lia)) (by exact rfl) (by exact rfl))
  (k_with "base:k_all" => first | assumption | (exact allLt_ne (by assumption)) | (exact allLt_ne (allLt_le (Nat.le_of_lt (by assumption)) (by assumption))))
  (k_with "base:call ref" => k_here; k_dflt (refine' call_cls (by k_asm) (by k_asm) (by k_asm) (by k_is) (by k_is) (by k_is) ?_; k_whole; intro _ _ _ _ _ l1zz l2zz; (first | k_lt l1zz | replace l1zz := allLt_of l1zz); (try k_lt2 l2zz); (try k_sweep); walk_at "m_enter"); intro _ _ _ _ _ _ _ _ _; (try dsimp only [b11_0, b11_0s, b12_0, b12_0s, b17_1, b17_1s]))
  (k_with "base:getMethod ref" => k_here; (with_reducible show wpAny _ _ (getMethod (Value.ref _) (Str.ofString "items") _) _ _ _); k_dflt (refine kdl_method (knd := PySem.strKind _ _) PySem.F.slot_dict_items PySem.F.type_dict_items (by k_asm) (by k_mem) (by with_reducible assumption) ?_))
  (k_with "base:getMethod ref" => k_here; (with_reducible show wpAny _ _ (getMethod (Value.ref _) (Str.ofString "get") _) _ _ _); k_dflt (first | refine kdl_method (knd := PySem.strKind _ _) PySem.F.slot_dict_get PySem.F.type_dict_get (by k_asm) (by k_mem) (by with_reducible assumption) ?_ | refine kdl_method (knd := PySem.intKind _ _) PySem.F.slot_dict_get PySem.F.type_dict_get (by k_asm) (by k_mem) (by with_reducible assumption) ?_))
  (k_with "base:getMethod ref" => k_here; (with_reducible show wpAny _ _ (getMethod (Value.ref _) (Str.ofString "setdefault") _) _ _ _); k_dflt (first | refine kdl_method (knd := PySem.strKind _ _) PySem.F.slot_dict_setdefault PySem.F.type_dict_setdefault (by k_asm) (by k_mem) (by with_reducible assumption) ?_ | refine kdl_method (knd := PySem.intKind _ _) PySem.F.slot_dict_setdefault PySem.F.type_dict_setdefault (by k_asm) (by k_mem) (by with_reducible assumption) ?_))
  (k_with "base:call builtin:dict.items" => k_here; (with_reducible show wpAny _ _ (call (Value.builtin "dict.items") [Value.ref _]) _ _ _); k_dflt (refine kdx_view (knd := PySem.strKind _ _) (by k_asm) (by k_asm) (by k_mem) (by with_reducible assumption) (by with_reducible assumption) ?_); intro _ _ _ _ l1zz; (first | k_lt l1zz | replace l1zz := allLt_of l1zz); (try (revert l1zz; intro _)))
  (k_with "base:m_ne" => first | with_reducible assumption | exact Ne.symm (by with_reducible assumption) | exact ne_of_allLt (by with_reducible assumption) (by k_mem) | exact Ne.symm (ne_of_allLt (by with_reducible assumption) (by k_mem)) | exact ne_of_all (by with_reducible assumption) (by k_mem) | exact Ne.symm (ne_of_all (by with_reducible assumption) (by k_mem)) | (refine neN ?_; lia))
  (k_with "base:m_notin" => first | with_reducible exact List.not_mem_nil | with_reducible assumption | (simp only [List.mem_cons, List.not_mem_nil, or_false, not_or]; first | walk_at "m_ne" | (refine ⟨?_, ?_⟩ <;> walk_at "m_ne") | (refine ⟨?_, ?_, ?_⟩ <;> walk_at "m_ne")))
  (k_with "base:k_mem" => first | with_reducible assumption | exact List.Mem.head _ | exact mem_put | (refine' List.mem_cons_of_mem _ ?_; k_mem) | (focus (refine' mem_put_of ?_ ?_; rotate_right 2; k_mem; walk_at "m_ne")) | (refine' List.mem_append_right _ ?_; k_mem) | (refine' List.mem_append_left _ ?_; k_mem) | (focus (refine' Keep.app ?_ ?_ ?_; rotate_right 3; (with_reducible assumption); k_mem; walk_at "m_notin")))
  (k_with "base:call type:tuple" => k_here; (with_reducible show wpAny _ _ (call (Value.type "tuple") [Value.ref _]) _ _ _); k_dflt (refine' kde_tupleOf (by k_asm) (by k_asm) (by exact News.isList (by k_asm) (by k_mem)) (by first | assumption | (simp only [List.size_toArray, List.length_map]; lia)) (by exact rfl) ?_; k_whole); intro _ _ _ _ l1zz; (first | k_lt l1zz | replace l1zz := allLt_of l1zz); (try (revert l1zz; intro _)))
  (k_with "base:m_enterS" => k_dflt (refine' code_defS (by k_asm) (by k_asm) (by k_asm) (by k_asm) (by k_asm) (by k_asm) (by k_asm) (by k_asm) (by first | assumption | exact KtsTurn.refl) (by assumption) (by k_is) (by k_is) (by k_room) (by first | exact BindsTo.of_eq rfl | exact binds_K (by k_in) rfl (by k_is) rfl rfl rfl) (by exact locs rfl) ?_ (by assumption) (by exact rfl) (by exact rfl) (by exact rfl) (by decide)))
  (k_with "base:LeaveS" => k_dflt (refine' leaveS_r (by k_asm) (by k_asm) (by first | assumption | exact KtsTurn.refl) ?_; k_whole); intro _ _ _ _ _ _ _ _; (try dsimp only))
  trivial
section Strs
/-- the figures to the base 85, the lowest last -/
noncomputable def b85s : List Nat := "!$%&*+,-./0123456789:;<=>?@ABCDEFGHIJKLMNOPQRSTUVWXYZ^_abcdefghijklmnopqrstuvwxyz{|}~".toList.map Char.toNat
noncomputable def digs : Nat → Nat → List Nat → List Nat
  | 0, _, acc => acc
  | n + 1, x, acc => digs n (x / 85) (b85s.getD (x % 85) 0 :: acc)
theorem b85_item {X : Nat} : Txt.item (Str.ofString "!$%&*+,-./0123456789:;<=>?@ABCDEFGHIJKLMNOPQRSTUVWXYZ^_abcdefghijklmnopqrstuvwxyz{|}~") ((X : Int).fmod 85) = ⟨#[b85s.getD (X % 85) 0]⟩ := by
  have e : (X : Int).fmod 85 = ((X % 85 : Nat) : Int) := by rw [Int.fmod_eq_emod_of_nonneg _ (by decide)]; lia
  rw [e]
  have hk : X % 85 < 85 := Nat.mod_lt _ (by decide)
  generalize X % 85 = k at hk
  revert k
  decide +kernel
theorem b85_step {n i X : Nat} {r : Str} {ds : List Nat} (hi : i < n) (h1 : digs (n - i) X r.cps.toList = ds) (h2 : r.cps.size = i) :
    ∃ Y : Nat, (X : Int).fdiv 85 = Y ∧ digs (n - (i + 1)) Y (Txt.item (Str.ofString "!$%&*+,-./0123456789:;<=>?@ABCDEFGHIJKLMNOPQRSTUVWXYZ^_abcdefghijklmnopqrstuvwxyz{|}~") ((X : Int).fmod 85) ++ r).cps.toList = ds ∧
      (Txt.item (Str.ofString "!$%&*+,-./0123456789:;<=>?@ABCDEFGHIJKLMNOPQRSTUVWXYZ^_abcdefghijklmnopqrstuvwxyz{|}~") ((X : Int).fmod 85) ++ r).cps.size = i + 1 := by
  refine y1_1 (X / 85) (ya3 ?_ ?_ ?_)
  · rw [Int.fdiv_eq_ediv_of_nonneg _ (by decide)]; rfl
  · rw [b85_item, ← h1, show n - i = n - (i + 1) + 1 by lia]
    show digs _ _ ((#[b85s.getD (X % 85) 0] ++ r.cps : Array Nat)).toList = digs _ _ _
    simp [digs]
  · rw [b85_item]
    show ((#[b85s.getD (X % 85) 0] ++ r.cps : Array Nat)).size = _
    simp [h2]; lia
theorem digs_length : ∀ n x acc, (digs n x acc).length = n + acc.length
  | 0, _, acc => by simp [digs]
  | n + 1, x, acc => by rw [digs, digs_length]; simp; lia
theorem to_base85_spec : ∀ {w : World} {A : Around} {s : Shared} {h₀ : Heap} {L : Addr} {m : Str → Option Value} {nw : Led} (C : Cx w A h₀ L 0) (F : Fr h₀ L s.heap m) (N : News h₀ L s.heap nw)
    (hh : A.handled = none) {R : Result → Shared → Prop} {x : Int} {tx : Tok} {b : Bool} (hx : 0 ≤ x)
    (_h : ∀ h' tk' r ty, Fr h₀ L h' m → News h₀ L h' nw → r = ⟨(digs (if b then 10 else 5) x.toNat []).toArray⟩ → r.length ≤ 64 → R (.ok (.ret (.str r ty))) ⟨h', s.gens, s.drawn, tk', s.os⟩),
    codeAny (model prog w) A (.call (.ref 437) ⟨[.int x tx, .bool b], []⟩) R s := by
  intro w A s h₀ L m nw
  refine Cx.el ?_
  intro X₀ lo mean mg mb T A₀ base outer env B hA hf hke hdep hun F N hh R x tx b hx h
  (refine feed (Int.eq_ofNat_of_zero_le hx) ?_; refine x1_1 ?_; intro x; intro zz9; subst zz9)
  rw [Int.toNat_natCast] at h
  refine fillIt ?_
  k_fill
  intro _
  w_strict (
    walk_at "m_enter"
    intro g' L' h' FG' F' N' B' X' T'
    (try dsimp only [b23, b23s])
    k_fold
    refine fr_open [(Str.ofString "x", _), (Str.ofString "islong", _)] F' (by walk_at "m_names") ?_
    clear F'
    intro m0 F'
    dsimp only [over] at F'
    cases b
    all_goals k_steps
    all_goals (refine Stop.out ?_)
    all_goals (rename IsRange _ _ _ _ _ _ _ _ => hR)
    · refine' iter_range_O (n := 5) (α := Int × Tok × Str × Tok) [] (fun st => [("rems", .str st.2.2.1 st.2.2.2), ("x", .int st.1 st.2.1)]) (fun i st _ => ∃ X : Nat, st.1 = X ∧ digs (5 - i) X st.2.2.1.cps.toList = digs 5 x [] ∧ st.2.2.1.cps.size = i) (x, tx, ⟨#[]⟩, ?v) hh hR (by decide) (by decide) (by assumption) (by assumption) (fun _ _ _ _ _ h => h) ?h0 ?hm ?turn ?done
      case hm => walk_at "m_names"
      case h0 => exact y1_1 x (ya3 rfl rfl rfl)
      case turn =>
        (intro i t; rintro ⟨_, u, r, v⟩; intro hq tk nw₁ own hi; refine x1_1 ?_; intro X; refine x0_3 ?_; intro zz9; subst zz9; intro h1 h2; intro hk ho hown F₁ N₁)
        dsimp only [over] at F₁ h1 h2 ⊢
        k_fold
        have hrl : r.length ≤ 64 := by (show r.cps.size ≤ 64); lia
        k_steps
        refine' OPost.intro ((X : Int).fdiv 85, ?a, Txt.item (Str.ofString "!$%&*+,-./0123456789:;<=>?@ABCDEFGHIJKLMNOPQRSTUVWXYZ^_abcdefghijklmnopqrstuvwxyz{|}~") ((X : Int).fmod 85) ++ r, ?c) (by assumption) (by assumption) ho ?hn ?hr ?hI
        case hn => walk_at "m_names"
        case hr => walk_at "m_rest"
        case hI => exact ⟨b85_step (by lia) h1 h2, hk⟩
      case done =>
        (rintro ⟨_, u, r, v⟩; intro hq tk nw₁ u'; refine x1_1 ?_; intro X; refine x0_3 ?_; intro zz9; subst zz9; intro h1 h2; intro hk F₁ N₁)
        dsimp only [over] at F₁ h1 h2 ⊢
        k_steps
        have e : r = ⟨(digs 5 x []).toArray⟩ := by rw [← h1]; rfl
        exact h _ _ _ _ (by assumption) (news_keep (by assumption) hk) e (by rw [e]; show List.length _ ≤ 64; rw [digs_length]; decide)
    · refine' iter_range_O (n := 10) (α := Int × Tok × Str × Tok) [] (fun st => [("rems", .str st.2.2.1 st.2.2.2), ("x", .int st.1 st.2.1)]) (fun i st _ => ∃ X : Nat, st.1 = X ∧ digs (10 - i) X st.2.2.1.cps.toList = digs 10 x [] ∧ st.2.2.1.cps.size = i) (x, tx, ⟨#[]⟩, ?v2) hh hR (by decide) (by decide) (by assumption) (by assumption) (fun _ _ _ _ _ h => h) ?h02 ?hm2 ?turn2 ?done2
      case hm2 => walk_at "m_names"
      case h02 => exact y1_1 x (ya3 rfl rfl rfl)
      case turn2 =>
        (intro i t; rintro ⟨_, u, r, v⟩; intro hq tk nw₁ own hi; refine x1_1 ?_; intro X; refine x0_3 ?_; intro zz9; subst zz9; intro h1 h2; intro hk ho hown F₁ N₁)
        dsimp only [over] at F₁ h1 h2 ⊢
        k_fold
        have hrl : r.length ≤ 64 := by (show r.cps.size ≤ 64); lia
        k_steps
        refine' OPost.intro ((X : Int).fdiv 85, ?a2, Txt.item (Str.ofString "!$%&*+,-./0123456789:;<=>?@ABCDEFGHIJKLMNOPQRSTUVWXYZ^_abcdefghijklmnopqrstuvwxyz{|}~") ((X : Int).fmod 85) ++ r, ?c2) (by assumption) (by assumption) ho ?hn2 ?hr2 ?hI2
        case hn2 => walk_at "m_names"
        case hr2 => walk_at "m_rest"
        case hI2 => exact ⟨b85_step (by lia) h1 h2, hk⟩
      case done2 =>
        (rintro ⟨_, u, r, v⟩; intro hq tk nw₁ u'; refine x1_1 ?_; intro X; refine x0_3 ?_; intro zz9; subst zz9; intro h1 h2; intro hk F₁ N₁)
        dsimp only [over] at F₁ h1 h2 ⊢
        k_steps
        have e : r = ⟨(digs 10 x []).toArray⟩ := by rw [← h1]; rfl
        exact h _ _ _ _ (by assumption) (news_keep (by assumption) hk) e (by rw [e]; show List.length _ ≤ 64; rw [digs_length]; decide))
end Strs
section Term
local macro_rules | `(tactic| walk_at $s:str) => do
  let k := Lean.Syntax.mkStrLit ("Term:" ++ s.getString)
  `(tactic| k_extra $k)
theorem fdiv_pow {x sh : Int} (hx : 0 ≤ x) : x.fdiv (2 ^ sh.toNat) = ((x.toNat / 2 ^ sh.toNat : Nat) : Int) := by
  (refine feed (Int.eq_ofNat_of_zero_le hx) ?_; refine x1_1 ?_; intro n; intro zz9; subst zz9)
  rw [Int.fdiv_eq_ediv_of_nonneg _ (Int.le_of_lt (Int.pow_pos (by decide)))]
  rw [Int.toNat_natCast, Int.natCast_ediv, Int.natCast_pow]; rfl
theorem term_eq {r : Str} {sz sh x : Int} (hr : r = ⟨(digs (if (sz == 64) = true then 10 else 5) (x.fdiv (2 ^ sh.toNat)).toNat []).toArray⟩) (hx : 0 ≤ x) :
    (⟨#[(33 + sh).toNat]⟩ : Str) ++ r = ⟨((33 + sh).toNat :: digs (if sz = 64 then 10 else 5) (x.toNat / 2 ^ sh.toNat) []).toArray⟩ ∧ ((⟨#[(33 + sh).toNat]⟩ : Str) ++ r).length ≤ 64 := by
  have ee : (⟨#[(33 + sh).toNat]⟩ : Str) ++ r = ⟨((33 + sh).toNat :: digs (if sz = 64 then 10 else 5) (x.toNat / 2 ^ sh.toNat) []).toArray⟩ := by
    rw [hr, fdiv_pow hx, Int.toNat_natCast]
    show Str.mk (#[_] ++ _) = _
    by_cases h6 : sz = 64 <;> simp [h6]
  refine ⟨ee, ?_⟩
  rw [ee]
  show List.length _ ≤ 64
  rw [List.length_cons, digs_length]; split <;> decide
example : True := by
  (k_with "Term:call ref" => k_here; (with_reducible show wpAny _ _ (call (Value.ref 437) _) _ _ _); refine wpAny_call ?_; k_dflt (refine' to_base85_spec (by walk_at "m_cx") (by k_asm) (by k_asm) (by walk_at "m_hh") (by first | assumption | lia) ?_); intro _ _ _ _ _ _ _ _; dsimp only)
  trivial
theorem law_term_spec : ∀ {w : World} {A : Around} {s : Shared} {h₀ : Heap} {L : Addr} {m : Str → Option Value} {nw : Led} (C : Cx w A h₀ L 1) (F : Fr h₀ L s.heap m) (N : News h₀ L s.heap nw)
    (hh : A.handled = none) {R : Result → Shared → Prop} {sz sh : Int} {x : Int} {t1 t2 t3 : Tok} (hx : 0 ≤ x) (hs : 0 ≤ sh) (hs2 : sh ≤ 64)
    (_h : ∀ h' tk' r ty, Fr h₀ L h' m → News h₀ L h' nw → r = ⟨((33 + sh).toNat :: digs (if sz = 64 then 10 else 5) (x.toNat / 2 ^ sh.toNat) []).toArray⟩ → r.length ≤ 64 → R (.ok (.ret (.str r ty))) ⟨h', s.gens, s.drawn, tk', s.os⟩),
    codeAny (model prog w) A (.call (.ref 451) ⟨[.int sz t1, .int sh t2, .int x t3], []⟩) R s := by
  intro w A s h₀ L m nw
  refine Cx.el ?_
  intro X₀ lo mean mg mb T A₀ base outer env B hA hf hke hdep hun F N hh R sz sh x t1 t2 t3 hx hs hs2 h
  refine fillIt ?_
  k_fill
  intro _
  w_strict (
    walk_at "m_enter"
    intro g' L' h' FG' F' N' B' X' T'
    (try dsimp only [b26, b26s])
    k_fold
    refine fr_open [(Str.ofString "size", _), (Str.ofString "shift", _), (Str.ofString "number", _)] F' (by walk_at "m_names") ?_
    clear F'
    intro m0 F'
    dsimp only [over] at F'
    have e := fdiv_pow (x := x) (sh := sh) hx
    have hx' : 0 ≤ x.fdiv (2 ^ sh.toNat) := by rw [e]; exact Int.natCast_nonneg _
    k_steps
    rename (_ = Str.mk _) => hr
    have ee := term_eq (sh := sh) hr hx
    exact h _ _ _ _ (by assumption) (by assumption) ee.1 ee.2)
end Term
section Node
noncomputable def DictIn {w : World} {κ : Type} [DecidableEq κ] (knd : KeyKind prog w κ) (l : Led) (d : Addr) (kvs : List (κ × Value)) : Prop := ∃ o, (d, o) ∈ l ∧ o.IsDictOf knd kvs
noncomputable def Fresh (l : Led) (a : Addr) : Prop := ∀ p ∈ l, p.1 ≠ a
noncomputable def NodeAt (l : Led) (x dx : Addr) (n : Int) (ar : Addr) (fin : Bool) : Prop :=
  (x, instObj 351 dx) ∈ l ∧ ∃ h1 h2 h3 t1 t2 t3 tn, (dx, dictOf [⟨h1, .str "n" t1, .int n tn⟩, ⟨h2, .str "arcs" t2, .ref ar⟩, ⟨h3, .str "final" t3, .bool fin⟩] 3) ∈ l
structure NewNode (w : World) (nw nw' : Led) (x dx ar : Addr) (n : Int) : Prop where
  keep : Keep [] nw nw'
  at_ : NodeAt nw' x dx n ar false
  arcs : DictIn (strKind prog w) nw' ar []
  fresh : ∀ z ∈ [x, dx, ar], Fresh nw z
  nodup : [x, dx, ar].Nodup
  lo : (ar == sysModules) = false
theorem node_new_spec : ∀ {w : World} {A : Around} {s : Shared} {h₀ : Heap} {L : Addr} {m : Str → Option Value} {nw : Led} (C : Cx w A h₀ L 1) (F : Fr h₀ L s.heap m) (N : News h₀ L s.heap nw)
    (hh : A.handled = none) {Q E : Value → Shared → Prop} {n : Int} {t : Tok}
    (_h : ∀ h' tk' x dx ar nw', Fr h₀ L h' m → News h₀ L h' nw' → NewNode w nw nw' x dx ar n → Q (.ref x) ⟨h', s.gens, s.drawn, tk', s.os⟩),
    wpAny (model prog w) A (call (.ref 351) [.int n t]) Q E s := by
  intro w A s h₀ L m nw
  refine Cx.el ?_
  intro X₀ lo mean mg mb T A₀ base outer env B hA hf hke hdep hun F N hh Q E n t h
  refine fillIt ?_
  k_fill
  intro _
  w_strict (
    walk1
    rename Fr _ _ _ _ => F9
    refine fr_open [(Str.ofString "self", _), (Str.ofString "n", _)] F9 (by walk_at "m_names") ?_
    clear F9
    intro m0 F9
    dsimp only [over] at F9
    k_steps
    rename (AllLt _ nw) => q1
    replace q1 := allLt_all q1
    rename (_ < _ ∧ _ < _ ∧ AllLt _ _) => q3
    rename (Obj.IsDictOf (PySem.strKind _ _) _ _) => q4
    refine h _ _ _ _ _ _ (by assumption) (by assumption) ⟨(fun p hp _ => .tail _ (.tail _ (.tail _ hp))), ⟨.tail _ (.head _), _, _, _, _, _, _, _, .tail _ (.tail _ (.head _))⟩, ⟨_, .head _, q4⟩, fun z hz => ?_, ?_, by assumption⟩
    · simp only [List.mem_cons, List.not_mem_nil, or_false] at hz
      rcases hz with rfl | rfl | rfl
      · exact fun p hp => Nat.ne_of_lt (Nat.lt_trans (q1 p hp) (by assumption))
      · exact fun p hp => Nat.ne_of_lt (q1 p hp)
      · exact allLt_ne q3.2.2
    · simp only [List.nodup_cons, List.mem_cons, List.not_mem_nil, or_false, not_or, not_false_eq_true, List.nodup_nil, and_true]
      refine ⟨⟨?_, ?_⟩, ?_⟩ <;> refine neN ?_ <;> lia)
end Node
section Dfa
local macro_rules | `(tactic| walk_at $s:str) => do
  let k := Lean.Syntax.mkStrLit ("Dfa:" ++ s.getString)
  `(tactic| k_extra $k)
local macro_rules | `(tactic| walk_at "zz") => `(tactic| skip)
noncomputable def DfaAt (l : Led) (x dx tr de fs ol : Addr) : Prop :=
  (x, instObj 311 dx) ∈ l ∧ ∃ h1 h2 h3 h4 h5 t1 t2 t3 t4 t5 tn, (dx, dictOf [⟨h1, .str "initial" t1, .int 0 tn⟩, ⟨h2, .str "transitions" t2, .ref tr⟩, ⟨h3, .str "defaults" t3, .ref de⟩, ⟨h4, .str "final_states" t4, .ref fs⟩, ⟨h5, .str "outlabels" t5, .ref ol⟩] 5) ∈ l
noncomputable def SetIn {w : World} {κ : Type} [DecidableEq κ] (knd : KeyKind prog w κ) (l : Led) (d : Addr) (S : κ → Bool) (n : Nat) : Prop := ∃ o, (d, o) ∈ l ∧ o.SetObjOf knd S n
structure NewDfa (w : World) (nw nw' : Led) (x dx tr de fs ol : Addr) : Prop where
  keep : Keep [] nw nw'
  at_ : DfaAt nw' x dx tr de fs ol
  trI : ∃ o, (tr, o) ∈ nw' ∧ o.IsDictOf (intKind prog w) []
  deI : ∃ o, (de, o) ∈ nw' ∧ o.IsDictOf (intKind prog w) []
  olI : ∃ o, (ol, o) ∈ nw' ∧ o.IsDictOf (intKind prog w) []
  fsI : ∃ led, (fs, { cls := .type "set", data := .set #[] 0 (.fresh 0 0 led) }) ∈ nw'
  fresh : ∀ z ∈ [x, dx, tr, de, fs, ol], Fresh nw z
  nodup : [x, dx, tr, de, fs, ol].Nodup
  lo : (tr == sysModules) = false ∧ (de == sysModules) = false ∧ (ol == sysModules) = false
theorem dfa_new_spec : ∀ {w : World} {A : Around} {s : Shared} {h₀ : Heap} {L : Addr} {m : Str → Option Value} {nw : Led} (C : Cx w A h₀ L 1) (F : Fr h₀ L s.heap m) (N : News h₀ L s.heap nw)
    (hh : A.handled = none) {Q E : Value → Shared → Prop} {t : Tok}
    (_h : ∀ h' tk' x dx tr de fs ol nw', Fr h₀ L h' m → News h₀ L h' nw' → NewDfa w nw nw' x dx tr de fs ol → Q (.ref x) ⟨h', s.gens, s.drawn, tk', s.os⟩),
    wpAny (model prog w) A (call (.ref 311) [.int 0 t]) Q E s := by
  intro w A s h₀ L m nw
  refine Cx.el ?_
  intro X₀ lo mean mg mb T A₀ base outer env B hA hf hke hdep hun F N hh Q E t h
  refine fillIt ?_
  k_fill
  intro _
  w_strict (
    walk1
    (try dsimp only [b11_0, b11_0s])
    rename Fr _ _ _ _ => F9
    refine fr_open [(Str.ofString "self", _), (Str.ofString "initial", _)] F9 (by walk_at "m_names") ?_
    clear F9
    intro m0 F9
    dsimp only [over] at F9
    k_steps
    rename (AllLt _ nw) => q0
    replace q0 := allLt_all q0
    rename (_ < _ ∧ _ < _ ∧ AllLt _ _) => q1
    rename (_ < _ ∧ _ < _ ∧ _ < _ ∧ AllLt _ _) => q2
    rename (_ < _ ∧ _ < _ ∧ _ < _ ∧ _ < _ ∧ AllLt _ _) => q3
    rename (_ < _ ∧ _ < _ ∧ _ < _ ∧ _ < _ ∧ _ < _ ∧ AllLt _ _) => q4
    refine h _ _ _ _ _ _ _ _ _ (by assumption) (by assumption) ⟨(fun p hp _ => .tail _ (.tail _ (.tail _ (.tail _ (.tail _ (.tail _ hp)))))),
      ⟨.tail _ (.tail _ (.tail _ (.tail _ (.head _)))), _, _, _, _, _, _, _, _, _, _, _, .tail _ (.tail _ (.tail _ (.tail _ (.tail _ (.head _)))))⟩,
      ⟨_, .tail _ (.tail _ (.tail _ (.head _))), by assumption⟩, ⟨_, .tail _ (.tail _ (.head _)), by assumption⟩, ⟨_, .head _, by assumption⟩, ⟨_, .tail _ (.head _)⟩, fun z hz => ?_, ?_, ⟨by assumption, by assumption, by assumption⟩⟩
    · simp only [List.mem_cons, List.not_mem_nil, or_false] at hz
      rcases hz with rfl | rfl | rfl | rfl | rfl | rfl
      · exact fun p hp => Nat.ne_of_lt (Nat.lt_trans (q0 p hp) (by assumption))
      · exact fun p hp => Nat.ne_of_lt (q0 p hp)
      · exact allLt_ne q1.2.2
      · exact allLt_ne q2.2.2.2
      · exact allLt_ne q3.2.2.2.2
      · exact allLt_ne q4.2.2.2.2.2
    · simp only [List.nodup_cons, List.mem_cons, List.not_mem_nil, or_false, not_or, not_false_eq_true, List.nodup_nil, and_true]
      refine ⟨⟨?_, ?_, ?_, ?_, ?_⟩, ⟨?_, ?_, ?_, ?_⟩, ⟨?_, ?_, ?_⟩, ⟨?_, ?_⟩, ?_⟩ <;> refine neN ?_ <;> lia)
theorem count_kind_spec : ∀ {w : World} {A : Around} {s : Shared} {h₀ : Heap} {L : Addr} {m : Str → Option Value} {nw : Led} (C : Cx w A h₀ L 0) (F : Fr h₀ L s.heap m) (N : News h₀ L s.heap nw)
    (hh : A.handled = none) {R : Result → Shared → Prop} {n : Int} {t : Tok}
    (_h : ∀ h' tk' t', Fr h₀ L h' m → News h₀ L h' nw → R (.ok (.ret (.int 0 t'))) ⟨h', s.gens, s.drawn, tk', s.os⟩),
    codeAny (model prog w) A (.call (.ref 369) ⟨[.int n t], []⟩) R s := by
  intro w A s h₀ L m nw
  refine Cx.el ?_
  intro X₀ lo mean mg mb T A₀ base outer env B hA hf hke hdep hun F N hh R n t h
  refine fillIt ?_
  k_fill
  intro _
  w_strict (
    walk_at "m_enter"
    intro g' L' h' FG' F' N' B' X' T'
    (try dsimp only [b16, b16s])
    k_fold
    refine fr_open [(Str.ofString "x", _)] F' (by walk_at "m_names") ?_
    clear F'
    intro m0 F'
    dsimp only [over] at F'
    k_steps
    exact h _ _ _ (by assumption) (by assumption))
example : True := by
  (k_with "Dfa:call ref" => k_here; (with_reducible show wpAny _ _ (call (Value.ref 369) _) _ _ _); refine wpAny_call ?_; k_dflt (refine' count_kind_spec (by walk_at "m_cx") (by k_asm) (by k_asm) (by walk_at "m_hh") ?_); intro _ _ _ _ _; dsimp only)
  trivial
noncomputable abbrev countObj (dx : Addr) (n : Int) (b : Bool) (t1 t3 : Tok) : Obj := { cls := .ref 410, dict := some dx, data := .plain, slots := #[some (.int n t1), some (.bool b), some (.int 1 t3)] }
noncomputable def CountAt (l : Led) (x dx : Addr) (n : Int) : Prop := ∃ b t1 t3, (x, countObj dx n b t1 t3) ∈ l ∧ (dx, dictOf [] 0) ∈ l
structure NewCount (nw nw' : Led) (x dx : Addr) : Prop where
  keep : Keep [] nw nw'
  at_ : CountAt nw' x dx 1
  fresh : ∀ z ∈ [x, dx], Fresh nw z
theorem count_new_spec : ∀ {w : World} {A : Around} {s : Shared} {h₀ : Heap} {L : Addr} {m : Str → Option Value} {nw : Led} (C : Cx w A h₀ L 2) (F : Fr h₀ L s.heap m) (N : News h₀ L s.heap nw)
    (hh : A.handled = none) {Q E : Value → Shared → Prop} {t : Tok}
    (_h : ∀ h' tk' x dx nw', Fr h₀ L h' m → News h₀ L h' nw' → NewCount nw nw' x dx → Q (.ref x) ⟨h', s.gens, s.drawn, tk', s.os⟩),
    wpAny (model prog w) A (call (.ref 410) [.int 1 t]) Q E s := by
  intro w A s h₀ L m nw
  refine Cx.el ?_
  intro X₀ lo mean mg mb T A₀ base outer env B hA hf hke hdep hun F N hh Q E t h
  refine fillIt ?_
  k_fill
  intro _
  w_strict (
    walk1
    rename Fr _ _ _ _ => F9
    refine fr_open [(Str.ofString "self", _), (Str.ofString "start", _), (Str.ofString "step", _)] F9 (by walk_at "m_names") ?_
    clear F9
    intro m0 F9
    dsimp only [over] at F9
    k_steps
    rename (AllLt _ nw) => q0
    replace q0 := allLt_all q0
    refine h _ _ _ _ _ (by assumption) (by assumption) ⟨(fun p hp _ => .tail _ (.tail _ hp)), ⟨_, _, _, .head _, .tail _ (.head _)⟩, fun z hz => ?_⟩
    simp only [List.mem_cons, List.not_mem_nil, or_false] at hz
    rcases hz with rfl | rfl
    · exact fun p hp => Nat.ne_of_lt (Nat.lt_trans (q0 p hp) (by assumption))
    · exact fun p hp => Nat.ne_of_lt (q0 p hp))
theorem next_inst {w : World} {A : Around} {Q E : Value → Shared → Prop} {s : Shared} {K : Frag} {x C L f : Addr} {h₀ : Heap} {m : Str → Option Value} {ox : Obj} {od : Option Obj} (F : Fr h₀ L s.heap m) (X₀ : K.In h₀) (I : InstAt s.heap x ox C od)
    (hs : findIn K (.ref C) "__next__" = some (some (.ref f))) (hf : isFn K (.ref f) = true)
    (h : wpAny (model prog w) A.in1 (call (.ref f) [.ref x]) Q E s) : wpAny (model prog w) A (call (.builtin "next") [.ref x]) Q E s := by
  refine call_function_entry (by decide +kernel) (by decide +kernel) kdk_entry_next (kdk_args_next _) ?_
  unfold Builtin.«next»
  refine wpAny_bind (m := someArgs "next" 1 2 _) (wpAny_of_eq (a := [Value.ref x]) (by first | rfl | kernel_rfl!) ?_)
  dsimp only
  refine wpAny_bind (wpAny_bind (I.type.here ((looks_findIn (X₀.keeps F.keep) hs).here ?_)))
  refine wpAny_ite_split (fun hab => absurd hab Bool.false_ne_true) (fun _ => ?_)
  refine wpAny_bind (special_fn (X₀.keeps F.keep) I hs (beq_iff_eq.mp hf) (wpAny_mono h (fun v s' z => ?_) (fun _ _ z => z)))
  exact wpAny_pure ⟨_, rfl, z⟩
theorem count_next_spec : ∀ {w : World} {A : Around} {s : Shared} {h₀ : Heap} {L : Addr} {m : Str → Option Value} {nw : Led} (C : Cx w A h₀ L 1) (F : Fr h₀ L s.heap m) (N : News h₀ L s.heap nw)
    (hh : A.handled = none) {Q E : Value → Shared → Prop} {c dx : Addr} {n : Int} (hc : CountAt nw c dx n)
    (_h : ∀ h' tk' t' nw', Fr h₀ L h' m → News h₀ L h' nw' → Keep [c] nw nw' → CountAt nw' c dx (n + 1) → Q (.int n t') ⟨h', s.gens, s.drawn, tk', s.os⟩),
    wpAny (model prog w) A (call (.builtin "next") [.ref c]) Q E s := by
  intro w A s h₀ L m nw
  refine Cx.el ?_
  (intro X₀ lo mean mg mb T A₀ base outer env B hA hf hke hdep hun F N hh Q E c dx n; refine x3_1 ?_; intro b t1 t3; refine x0_2 ?_; intro hc1 hc2; intro h)
  have hne : dx ≠ c := ne_of_cls N hc2 hc1 (by simp)
  (refine feed (focus N hc1) ?_; refine x1_1 ?_; intro r; refine x0_4 ?_; intro N hr hin hout)
  have hc2' := hin _ hc2 hne
  refine fillIt ?_
  k_fill
  intro _
  w_strict (
    k_dflt (refine' next_inst ?k1 ?k2 ?k3 ?k4 ?k5 ?_; (case k1 => k_asm); (case k2 => k_asm); (case k3 => k_inst); (case k4 => k_is); (case k5 => k_is))
    refine wpAny_call ?_
    walk_at "m_enter"
    intro g' L' h' FG' F' N' B' X' T'
    (try dsimp only [b17_3, b17_3s])
    k_fold
    refine fr_open [(Str.ofString "self", _)] F' (by walk_at "m_names") ?_
    clear F'
    intro m0 F'
    dsimp only [over] at F'
    k_steps
    exact h _ _ _ _ (by assumption) (by assumption) (fun p hp hn => .tail _ (hin p hp (fun e => hn (by rw [e]; exact .head _)))) ⟨_, _, _, .head _, .tail _ hc2'⟩)
end Dfa
section Ops
section
variable {w : World} {A : Around} {E : Value → Shared → Prop} {s : Shared} {h₀ : Heap} {L d : Addr} {m : Str → Option Value} {nw : Led} {κ : Type} [DecidableEq κ] {knd : KeyKind prog w κ} {o : Obj} {kvs : List (κ × Value)} {k : κ} {key v dflt : Value}
theorem get2_M {Q : Value → Shared → Prop} (N : News h₀ L s.heap nw) (hp : (d, o) ∈ nw) (hd : o.IsDictOf knd kvs) (lo : (d == sysModules) = false) (hkey : knd.is k key = true)
    (h : Q ((valueAt kvs k).getD dflt) { s with toks := s.toks + 1 }) : wpAny (model prog w) A (call (.builtin "dict.get") [.ref d, key, dflt]) Q E s :=
  have hD := kda_dict N hp hd
  call_meetsIn PySem.F.slot_dict_get hD.typeIs PySem.F.entry_dict_get (PySem.F.args_dict_get_3 _ _ _) (meets_dict_get_default knd d hkey lo dflt) ⟨_, hD.mapOf, h⟩
theorem in_M {Q : Value → Shared → Prop} (N : News h₀ L s.heap nw) (hp : (d, o) ∈ nw) (hd : o.IsDictOf knd kvs) (lo : (d == sysModules) = false) (hkey : knd.is k key = true)
    (h : Q (.bool (valueAt kvs k).isSome) { s with toks := s.toks + 1 }) : wpAny (model prog w) A (compareOp .In key (.ref d)) Q E s :=
  wpAny_in_of hkey lo (kda_dict N hp hd).mapOf h
theorem notin_M {Q : Value → Shared → Prop} (N : News h₀ L s.heap nw) (hp : (d, o) ∈ nw) (hd : o.IsDictOf knd kvs) (lo : (d == sysModules) = false) (hkey : knd.is k key = true)
    (h : Q (.bool (!(valueAt kvs k).isSome)) { s with toks := s.toks + 1 }) : wpAny (model prog w) A (compareOp .NotIn key (.ref d)) Q E s :=
  wpAny_notIn_of hkey lo (kda_dict N hp hd).mapOf h
theorem setItem_M {Q : Unit → Shared → Prop} (F : Fr h₀ L s.heap m) (N : News h₀ L s.heap nw) (hp : (d, o) ∈ nw) (hd : o.IsDictOf knd kvs) (hkey : knd.is k key = true) (hsz : kvs.length ≤ sizeLine)
    (h : ∀ h' o', Fr h₀ L h' m → News h₀ L h' (put d o' nw) → o'.IsDictOf knd (stored kvs k v) → Q () { s with heap := h', toks := s.toks + 1 }) : wpAny (model prog w) A (setItem (.ref d) key v) Q E s := by
  refine wpAny_setItem_pairs hkey (kda_dict N hp hd) (fun h' hm' hs => ?_) hsz
  (refine feed (Heap.dictOf_iff.mp hm') ?_; refine x1_1 ?_; intro o'; refine x0_2 ?_; intro ho' hd')
  (refine feed (led_set F N hp hs ho') ?_; refine x0_2 ?_; intro F' N')
  exact h h' o' F' N' hd'
theorem setdefault_M {Q : Value → Shared → Prop} (F : Fr h₀ L s.heap m) (N : News h₀ L s.heap nw) (hp : (d, o) ∈ nw) (hd : o.IsDictOf knd kvs) (lo : (d == sysModules) = false) (hkey : knd.is k key = true) (hsz : kvs.length ≤ sizeLine)
    (h1 : ∀ v, valueAt kvs k = some v → Q v { s with toks := s.toks + 1 })
    (h2 : valueAt kvs k = none → ∀ h' o', Fr h₀ L h' m → News h₀ L h' (put d o' nw) → o'.IsDictOf knd (stored kvs k dflt) → Q dflt { s with heap := h', toks := s.toks + 1 }) :
    wpAny (model prog w) A (call (.builtin "dict.setdefault") [.ref d, key, dflt]) Q E s := by
  have hD := kda_dict N hp hd
  refine call_meetsIn PySem.F.slot_dict_setdefault hD.typeIs PySem.F.entry_dict_setdefault (PySem.F.args_dict_setdefault_3 _ _ _) (kt_meets_setdefault knd d hkey lo dflt)
    ⟨kvs, hD, hsz, h1, fun hn h' hmm hs => ?_⟩
  (refine feed (Heap.dictOf_iff.mp hmm) ?_; refine x1_1 ?_; intro o'; refine x0_2 ?_; intro ho' hd')
  (refine feed (led_set F N hp hs ho') ?_; refine x0_2 ?_; intro F' N')
  exact h2 hn h' o' F' N' hd'
theorem setadd_M {Q : Value → Shared → Prop} {S : κ → Bool} {n : Nat} (F : Fr h₀ L s.heap m) (N : News h₀ L s.heap nw) (hp : (d, o) ∈ nw) (hd : o.SetObjOf knd S n) (hkey : knd.is k key = true) (hsc : key.scannable = true) (hb : n + 1 < scanBound)
    (h : ∀ h' o', Fr h₀ L h' m → News h₀ L h' (put d o' nw) → o'.SetObjOf knd (fun k' => S k' || decide (k' = k)) (if S k then n else n + 1) → Q .none { s with heap := h', toks := s.toks + 1 }) :
    wpAny (model prog w) A (call (.builtin "set.add") [.ref d, key]) Q E s := by
  refine call_set_add hkey hsc (hd.setOf (N _ hp).1 (by lia)) hb fun h' hs hS => ?_
  (refine feed (hS.objOf) ?_; refine x1_1 ?_; intro o'; refine x0_2 ?_; intro ho' hd')
  (refine feed (led_set F N hp hs ho') ?_; refine x0_2 ?_; intro F' N')
  exact h h' o' F' N' hd'
theorem setin_M {Q : Value → Shared → Prop} {S : κ → Bool} {n : Nat} (N : News h₀ L s.heap nw) (hp : (d, o) ∈ nw) (hd : o.SetObjOf knd S n) (hkey : knd.is k key = true) (hsc : key.scannable = true) (hb : n < scanBound)
    (h : Q (.bool (S k)) { s with toks := s.toks + 1 }) : wpAny (model prog w) A (compareOp .In key (.ref d)) Q E s :=
  wpAny_inSet_of hkey hsc (hd.setOf (N _ hp).1 hb) h
theorem setadd_method {S : κ → Bool} {n : Nat} {pl : Sem Bool} {Q : Value × List Value → Shared → Prop} (N : News h₀ L s.heap nw) (hp : (d, o) ∈ nw) (hd : o.SetObjOf knd S n) (hb : n < scanBound)
    (h : Q (.builtin "set.add", [.ref d]) s) : wpAny (model prog w) A (getMethod (.ref d) "add" pl) Q E s := getMethod_set_add (hd.setOf (N _ hp).1 hb) h
theorem upd_focus {o' : Obj} : Upd d o o' (put d o nw) (put d o' nw) := .head fun p hp => by
  have := (List.mem_filter.mp hp).2
  simpa using this
theorem news_put (N : News h₀ L s.heap nw) (hp : (d, o) ∈ nw) : News h₀ L s.heap (put d o nw) := fun p hm => by
  rcases List.mem_cons.mp hm with rfl | hm
  · exact N _ hp
  · exact N p (List.mem_filter.mp hm).1
theorem append_M {its : Array Value} {n : Nat} {x : Value} {Q : Value → Shared → Prop} (F : Fr h₀ L s.heap m) (N : News h₀ L s.heap nw) (hp : (d, listOf its n) ∈ nw) (hsz : its.size ≤ sizeLine)
    (h : ∀ h', Fr h₀ L h' m → News h₀ L h' (put d (listOf (its.push x) (n + 1)) nw) → Q .none { s with heap := h' }) : wpAny (model prog w) A (call (.builtin "list.append") [.ref d, x]) Q E s :=
  append_K F (news_put N hp) upd_focus h hsz
theorem kl_last_app (y : Value) : ∀ l : List Value, kl_last (l ++ [y]) = some (l, y)
  | [] => rfl
  | x :: l => by
    show (match kl_last (l ++ [y]) with | some (p, z) => some (x :: p, z) | none => some ([], x)) = _
    rw [kl_last_app y l]
theorem pop_M {its : List Value} {n : Nat} {y : Value} {Q : Value → Shared → Prop} (F : Fr h₀ L s.heap m) (N : News h₀ L s.heap nw) (hp : (d, listOf (its ++ [y]).toArray n) ∈ nw) (hz : its.length + 1 ≤ sizeLine)
    (h : ∀ h', Fr h₀ L h' m → News h₀ L h' (put d (listOf its.toArray (n + 1)) nw) → Q y { s with heap := h' }) : wpAny (model prog w) A (call (.builtin "list.pop") [.ref d]) Q E s := by
  exact kl_pop (p := its) (y := y) F (news_put N hp) (by simpa using kl_last_app y its) upd_focus (by simpa using hz) h
end
end Ops
section Items
noncomputable abbrev viewOf (d : Addr) : Obj := { cls := .type "dict_items", data := .fields #[.ref d] }
theorem iteritems_spec : ∀ {w : World} {A : Around} {s : Shared} {h₀ : Heap} {L : Addr} {m : Str → Option Value} {nw : Led} (C : Cx w A h₀ L 0) (F : Fr h₀ L s.heap m) (N : News h₀ L s.heap nw)
    (hh : A.handled = none) {R : Result → Shared → Prop} {d : Addr} {o : Obj} {kvs : List (Str × Value)} (ho : (d, o) ∈ nw) (hd : o.IsDictOf (strKind prog w) kvs) (hlo : (d == sysModules) = false)
    (_h : ∀ h' tk' v, Fr h₀ L h' m → News h₀ L h' ((v, viewOf d) :: nw) → AllLt v nw → R (.ok (.ret (.ref v))) ⟨h', s.gens, s.drawn, tk', s.os⟩),
    codeAny (model prog w) A (.call (.ref 63) ⟨[.ref d], []⟩) R s := by
  intro w A s h₀ L m nw
  refine Cx.el ?_
  intro X₀ lo mean mg mb T A₀ base outer env B hA hf hke hdep hun F N hh R d o kvs ho hd hlo h
  refine fillIt ?_
  k_fill
  intro _
  w_strict (
    k_dflt (refine' ktl_code ?k1 ?k2 ?k3 ?k4 ?k5 ?kA ?kF ?kK ?k6 ?k7 ?k8 ?k9 ?kB ?_ ?c2 ?c3 ?c4 ?c5; (case kA => assumption); (case kF => assumption); (case kK => assumption); (case k1 => k_asm); (case k2 => k_asm); (case k3 => k_asm); (case k4 => k_asm); (case k5 => k_asm); (case k6 => k_is); (case k7 => k_is); (case k8 => k_room); (case k9 => exact rfl); (case c5 => decide); (case kB => exact locs rfl); (case c2 => exact rfl); (case c3 => exact rfl); (case c4 => exact rfl))
    intro g' L' h' FG' F' N' B' X' T'
    (try dsimp only [b5, b5s])
    k_fold
    k_steps
    exact h _ _ _ (by assumption) (by assumption) (by assumption))
/-- a run that stands in order is left as it is -/
theorem kas_asc_no {cmp : Nat → Nat → (Bool → Shared → Prop) → Shared → Prop} {n : Nat} {s : Shared} (h : ∀ i, 1 ≤ i → i < n → ∀ C : Bool → Shared → Prop, C false s → cmp i (i - 1) C s) {Q : Nat → Shared → Prop} :
    ∀ f k, 1 ≤ k → k + f = n → Q n s → (kas_asc (List.toArray (List.range n)) f k).kasWp cmp Q s
  | 0, k, _, e, hq => by
    have : k = n := by lia
    subst this; exact hq
  | f + 1, k, hk, e, hq => by
    have h1 : (List.toArray (List.range n)).getD k 0 = k := by simp [show k < n by lia]
    have h2 : (List.toArray (List.range n)).getD (k - 1) 0 = k - 1 := by simp [show k - 1 < n by lia]
    show cmp ((List.toArray (List.range n)).getD k 0) ((List.toArray (List.range n)).getD (k - 1) 0) _ s
    rw [h1, h2]
    refine h k hk (by lia) _ ?_
    show ((if false = true then KasT.ret k else kas_asc (List.toArray (List.range n)) f (k + 1))).kasWp cmp Q s
    rw [if_neg (by simp)]
    exact kas_asc_no h f (k + 1) (by lia) (by lia) hq
theorem kas_sort_no {cmp : Nat → Nat → (Bool → Shared → Prop) → Shared → Prop} {n : Nat} {s : Shared} (h2 : 2 ≤ n) (h : ∀ i, 1 ≤ i → i < n → ∀ C : Bool → Shared → Prop, C false s → cmp i (i - 1) C s) {Q : Array Nat → Shared → Prop}
    (hq : Q (List.toArray (List.range n)) s) : (kas_sort n).kasWp cmp Q s := by
  unfold kas_sort
  rw [KasT.kasWp_bind]
  unfold kas_count
  rw [KasT.kasWp_bind]
  refine kas_asc_no h (n - 1) 1 (Nat.le_refl _) (by lia) ?_
  rw [if_pos (by simp)]
  show ((if n < n then _ else KasT.ret _ : KasT (Array Nat))).kasWp cmp Q s
  rw [if_neg (Nat.lt_irrefl _)]
  exact hq
section
variable {w : World} {A : Around} {E : Value → Shared → Prop} {s : Shared} {h₀ : Heap} {L a : Addr} {m : Str → Option Value} {nw : Led} {vs : List Value}
theorem sort_short {n : Nat} {P : PySem.Fin → Shared → Prop} (F : Fr h₀ L s.heap m) (N : News h₀ L s.heap nw) (ho : s.heap.get? a = some (seqObj "list" vs.toArray n)) (haL : a ≠ L) (ha0 : h₀.get? a = none) (hna : ∀ p ∈ nw, p.1 ≠ a)
    (h2 : vs.length < 2) (h : ∀ c h', Fr h₀ L h' m → News h₀ L h' ((a, listOf vs.toArray c) :: nw) → P (.done (.ret .none)) { s with heap := h' }) :
    wpAny (model prog w) A (Builtin.«list.sort» ⟨[.ref a], []⟩) P E s := by
  have ha : a < s.heap.objs.size := Heap.lt_size ho
  have s1 := Heap.SameBut.update s.heap a (Obj.mapSeq fun _ => (#[] : Array Value))
  obtain ⟨e1, ho1⟩ : ∃ e1, (s.heap.update a (Obj.mapSeq fun _ => (#[] : Array Value))).get? a = some (seqObj "list" #[] e1) := ⟨_, get?_update_seq ho fun _ => #[]⟩
  have F3 : Fr h₀ L (((s.heap.update a (Obj.mapSeq fun _ => (#[] : Array Value))).push (seqObj "tuple" vs.toArray 0)).push (seqObj "list" #[] 0)) m := ((kas_fr F s1 haL ha0).push _).push _
  have N2 : News h₀ L (((s.heap.update a (Obj.mapSeq fun _ => (#[] : Array Value))).push (seqObj "tuple" vs.toArray 0)).push (seqObj "list" #[] 0)) nw :=
    (kas_news N s1 hna).grown fun b x e => Heap.get?_push_of_some _ (Heap.get?_push_of_some _ e)
  have ho6 := Heap.get?_push_of_some (seqObj "list" #[] 0) (Heap.get?_push_of_some (seqObj "tuple" vs.toArray 0) ho1)
  rw [list_sort_plain]
  refine wpAny_bind (listItems_at ho rfl ?_)
  refine wpAny_bind (listUpdate_at ho rfl ?_ (by rw [List.size_toArray, sizeLine_eq]; lia) (Nat.zero_le _))
  refine wpAny_bind (seqEpoch_at ho1 rfl ?_)
  refine wpAny_bind (wpAny_newTuple ?_ (by show vs.length ≤ _; rw [sizeLine_eq]; lia))
  refine wpAny_bind (wpAny_newList ?_ (Nat.zero_le _))
  refine wpAny_holding ?_
  show wpAny (model prog w) A _ P E { s with heap := ((s.heap.update a (Obj.mapSeq fun _ => (#[] : Array Value))).push (seqObj "tuple" vs.toArray 0)).push (seqObj "list" #[] 0) }
  dsimp only
  have hn2 : vs.toArray.size < 2 := by rw [List.size_toArray]; lia
  rw [if_pos hn2, if_pos hn2]
  refine wpAny_bind (wpAny_pure ?_)
  rw [StateT.run_pure]
  refine wpAny_bind (wpAny_pure ?_)
  dsimp only
  refine wpAny_bind (seqEpoch_at ho6 rfl ?_)
  have hout : (arrOf (SortSt.mk' general' (vs.toArray.zip vs.toArray) #[] 7 none)).map (·.2) = vs.toArray := by
    show (vs.toArray.zip vs.toArray).map (·.2) = _
    simp only [List.zip_toArray, List.map_toArray]
    rw [List.map_snd_zip (Nat.le_refl _)]
  rw [hout]
  have s2 := Heap.SameBut.update (((s.heap.update a (Obj.mapSeq fun _ => (#[] : Array Value))).push (seqObj "tuple" vs.toArray 0)).push (seqObj "list" #[] 0)) a (Obj.mapSeq fun _ => vs.toArray)
  obtain ⟨c2, hc2⟩ : ∃ c2, ((((s.heap.update a (Obj.mapSeq fun _ => (#[] : Array Value))).push (seqObj "tuple" vs.toArray 0)).push (seqObj "list" #[] 0)).update a (Obj.mapSeq fun _ => vs.toArray)).get? a = some (seqObj "list" vs.toArray c2) := ⟨_, get?_update_seq ho6 fun _ => vs.toArray⟩
  refine wpAny_bind (listUpdate_at ho6 rfl ?_ (Nat.zero_le _) (by rw [List.size_toArray, sizeLine_eq]; lia))
  simp only [bne_self_eq_false, Bool.false_eq_true, if_false]
  refine wpAny_pure (h c2 _ (kas_fr F3 s2 haL ha0) fun p hp => ?_)
  rcases List.mem_cons.mp hp with rfl | hp
  · exact ⟨hc2, haL, ha0⟩
  · exact ⟨(s2.2 p.1 (hna p hp)).trans (N2 p hp).1, (N2 p hp).2⟩
noncomputable abbrev tupObj (xs : Array Value) : Obj := { cls := .type "tuple", data := .seq xs }
/-- the tuples that the items of a dict make -/
noncomputable def PairTups (l : Led) : List Addr → List (Str × Value) → Prop
  | [], [] => True
  | a :: as, kv :: kvs => (∃ t, (a, tupObj #[.str kv.1 t, kv.2]) ∈ l) ∧ PairTups l as kvs
  | _, _ => False
theorem PairTups.get {l : Led} : ∀ {as kvs}, PairTups l as kvs → ∀ i, i < as.length → ∃ a kv t, as[i]? = some a ∧ kvs[i]? = some kv ∧ (a, tupObj #[.str kv.1 t, kv.2]) ∈ l
  | [], [], _, i, hi => by simp at hi
  | a :: as, kv :: kvs, ⟨⟨t, h⟩, r⟩, i, hi => by
    cases i with
    | zero => exact y3_1 a kv t (ya3 rfl rfl h)
    | succ i => simpa using PairTups.get r i (by simpa using hi)
  | [], _ :: _, h, _, _ => h.elim
  | _ :: _, [], h, _, _ => h.elim
theorem PairTups.mono {l l' : Led} (hs : ∀ p ∈ l, p.2.cls = .type "tuple" → p ∈ l') : ∀ {as kvs}, PairTups l as kvs → PairTups l' as kvs
  | [], [], _ => trivial
  | a :: as, kv :: kvs, ⟨⟨t, h⟩, r⟩ => ⟨⟨t, hs _ h rfl⟩, PairTups.mono hs r⟩
  | [], _ :: _, h => h.elim
  | _ :: _, [], h => h.elim
theorem PairTups.length {l : Led} : ∀ {as kvs}, PairTups l as kvs → as.length = kvs.length
  | [], [], _ => rfl
  | a :: as, kv :: kvs, ⟨_, r⟩ => by simp [PairTups.length r]
  | [], _ :: _, h => h.elim
  | _ :: _, [], h => h.elim
theorem PairTups.tups {l : Led} {h : Heap} {h₀ : Heap} {L : Addr} (N : News h₀ L h l) : ∀ {as kvs}, PairTups l as kvs → ∃ fs, KatTups h (as.map Value.ref) fs ∧ fs.length = as.length ∧ ∀ v ∈ fs, ∃ x t, v = Value.str x t
  | [], [], _ => ⟨[], trivial, rfl, fun _ h => nomatch h⟩
  | a :: as, kv :: kvs, ⟨⟨t, h⟩, r⟩ => by
    (refine feed (PairTups.tups N r) ?_; refine x1_1 ?_; intro fs; refine x0_3 ?_; intro h1 h2 h3)
    exact ⟨.str kv.1 t :: fs, ⟨⟨a, _, _, _, rfl, (N _ h).1, rfl, rfl, rfl⟩, h1⟩, by simp [h2], fun v hv => by
      rcases List.mem_cons.mp hv with rfl | hv
      · exact y2_1 _ _ rfl
      · exact h3 v hv⟩
  | [], _ :: _, h => h.elim
  | _ :: _, [], h => h.elim
theorem range_getD (vs : List Value) : (List.toArray (List.range vs.length)).toList.map (fun i => vs.getD i Value.none) = vs := by
  apply List.ext_getElem?
  intro i
  by_cases hi : i < vs.length <;> simp [hi]
/-- the items of a dict, in the order of their keys already -/
theorem list_sort_items {n : Nat} {P : PySem.Fin → Shared → Prop} {as : List Addr} {kvs : List (Str × Value)} (F : Fr h₀ L s.heap m) (N : News h₀ L s.heap nw) (ho : s.heap.get? a = some (seqObj "list" (as.map Value.ref).toArray n)) (haL : a ≠ L) (ha0 : h₀.get? a = none) (hna : ∀ p ∈ nw, p.1 ≠ a)
    (hp : PairTups nw as kvs) (hs : kvs.Pairwise fun x y => x.1.cps.toList < y.1.cps.toList) (h64 : kvs.length < 64)
    (h : ∀ c h', Fr h₀ L h' m → News h₀ L h' ((a, listOf (as.map Value.ref).toArray c) :: nw) → P (.done (.ret .none)) { s with heap := h' }) :
    wpAny (model prog w) A (Builtin.«list.sort» ⟨[.ref a], []⟩) P E s := by
  have hl := hp.length
  by_cases h2 : kvs.length < 2
  · exact sort_short F N ho haL ha0 hna (by simpa [hl] using h2) h
  · refine wpAny_mono (Q := P) (E := fun e s => False) ?_ (fun _ _ x => x) (fun _ _ x => x.elim)
    refine kat_list_sort (vs := as.map Value.ref) F N ho haL ha0 hna (by rw [List.length_map]; lia) (by rw [List.length_map]; lia) fun e1 h' F' N' => ?_
    have hp' : PairTups ((a, seqObj "list" #[] e1) :: nw) as kvs := hp.mono fun p hp _ => .tail _ hp
    (refine feed (hp'.tups N') ?_; refine x1_1 ?_; intro fs; refine x0_3 ?_; intro k1 k2 k3)
    refine kat_kind (T := .type "str") k1 (by lia) (fun v hv => by (refine feed (k3 v hv) ?_; refine x2_1 ?_; intro x t; intro zz9; subst zz9); exact Looks.of_pure rfl) rfl ?_
    refine kas_sort_no (by rw [List.length_map]; lia) (fun i hi1 hi2 C hC => ?_) ?_
    · rw [List.length_map] at hi2
      (refine feed (hp'.get i hi2) ?_; refine x3_1 ?_; intro b kv t; refine x0_3 ?_; intro e1 e2 e3)
      (refine feed (hp'.get (i - 1) (by lia)) ?_; refine x3_1 ?_; intro c kv' t'; refine x0_3 ?_; intro f1 f2 f3)
      have hlt : kv'.1.cps.toList < kv.1.cps.toList := by
        have g1 := List.getElem?_eq_some_iff.mp e2
        have g2 := List.getElem?_eq_some_iff.mp f2
        have := List.pairwise_iff_getElem.mp hs (i - 1) i g2.1 g1.1 (by lia)
        rw [g1.2, g2.2] at this
        exact this
      unfold kas_ask
      have v1 : (as.map Value.ref).getD i Value.none = .ref b := by simp [List.getD, e1]
      have v2 : (as.map Value.ref).getD (i - 1) Value.none = .ref c := by simp [List.getD, f1]
      rw [v1, v2]
      refine kat_lt (N' _ e3).1 rfl (N' _ f3).1 rfl ?_
      refine kat_cons (wpAny_eqBool_str ?_)
      have hne : decide (kv.1 = kv'.1) = false := decide_eq_false (fun e => by rw [e] at hlt; exact List.lt_irrefl _ hlt)
      rw [hne]
      refine kat_no ?_
      show wpAny _ _ (oneLt' true _ _) _ _ _
      refine oneLt_str ?_
      have hnl : decide (kv.1.cps.toList < kv'.1.cps.toList) = false := decide_eq_false (fun e => List.lt_irrefl _ (List.lt_trans e hlt))
      rw [hnl]
      exact hC
    · rw [range_getD]
      exact KasFin.intro F' N' (.head hna) fun h'' c F'' N'' => h c h'' F'' N''
theorem sorted_items_M {v d : Addr} {od : Obj} {kvs : List (Str × Value)} {Q : Value → Shared → Prop} (hh : A.handled = none) (F : Fr h₀ L s.heap m) (N : News h₀ L s.heap nw) (hvw : (v, viewOf d) ∈ nw) (hmd : (d, od) ∈ nw) (hod : od.IsDictOf (PySem.strKind prog w) kvs)
    (h64 : kvs.length < 64) (hs : kvs.Pairwise fun x y => x.1.cps.toList < y.1.cps.toList)
    (h : ∀ B c h' tk as T, Fr h₀ L h' m → News h₀ L h' ((B, listOf (as.map Value.ref).toArray c) :: (T ++ nw)) → AllLt B (T ++ nw) → PairTups T as kvs → as.length = kvs.length → Q (.ref B) ⟨h', s.gens, s.drawn, tk, s.os⟩) :
    wpAny (model prog w) A (call (.builtin "sorted") [.ref v]) Q E s := by
  (refine feed (KdkAt.of hod) ?_; refine x1_1 ?_; intro ep hat)
  have hn : kvs.length ≤ sizeLine := by rw [sizeLine_eq]; lia
  refine call_function_entry kind_sorted plain_sorted entry_sorted (args_sorted1 _) ?_
  unfold Builtin.«sorted»
  refine wpAny_bind (m := checkCount "sorted" 1 1 _) (wpAny_pure ?_)
  refine wpAny_bind (kdx_collect (A := A.in1) (knd := PySem.strKind prog w) (kvs := kvs) (ep := ep) hh ⟨_, (N _ hvw).1, rfl, rfl⟩ (hat.dictAt (N _ hmd).1) hn fun h' tk as hk hl hG => ?_)
  refine wpAny_bind (wpAny_newList ?_ (by rw [List.length_map, hl]; exact hn))
  -- the tuples of the items, as entries
  have tups : ∀ (as' : List Addr) (kvs' : List (Str × Value)), as'.length = kvs'.length → (∀ (j : Nat) (a : Addr), as'[j]? = some a → ∃ key k x, kvs'[j]? = some (k, x) ∧ (PySem.strKind prog w).is k key = true ∧ h'.get? a = some { cls := .type "tuple", data := .seq #[key, x] }) →
      (∀ a ∈ as', a ≠ L ∧ h₀.get? a = none) → ∃ T : Led, News h₀ L h' T ∧ PairTups T as' kvs' := by
    intro as' 
    induction as' with
    | nil =>
      intro kvs' hl' _ _
      cases kvs' with
      | nil => exact y1_1 ([]) (ya2 (fun _ hp => (nomatch hp)) trivial)
      | cons _ _ => simp at hl'
    | cons a as' ih =>
      intro kvs' hl' hq hf
      cases kvs' with
      | nil => simp at hl'
      | cons kv kvs' =>
        (refine feed (ih kvs' (by simpa using hl') (fun j b hj => by obtain ⟨key, k, x, e1, e2, e3⟩ := hq (j + 1) b (by simpa using hj); exact y3_1 key k x (ya3 (by simpa using e1) e2 e3)) (fun b hb => hf b (.tail _ hb))) ?_; refine x1_1 ?_; intro T; refine x0_2 ?_; intro NT PT)
        (refine feed (hq 0 a rfl) ?_; refine x3_1 ?_; intro key k x; refine x0_3 ?_; intro e1 e2 e3)
        have e1' : kv = (k, x) := by simpa using e1
        subst e1'
        (refine feed (Value.isStrOf_shape e2) ?_; refine x1_1 ?_; intro t; intro zz9; subst zz9)
        refine y1_1 ((a, tupObj #[.str k t, x]) :: T) (ya3 (fun p hp => ?_) ⟨t, .head _⟩ (PT.mono fun p hp _ => .tail _ hp))
        rcases List.mem_cons.mp hp with rfl | hp
        · exact ⟨e3, hf a (.head _)⟩
        · exact NT p hp
  (refine feed (tups as kvs hl hG.pairs (fun a ha => kdx_fresh F (Nat.le_of_lt (hG.above a ha)))) ?_; refine x1_1 ?_; intro T; refine x0_2 ?_; intro NT PT)
  have N' : News h₀ L h' (T ++ nw) := fun q hq => by
    rcases List.mem_append.mp hq with hq | hq
    · exact NT q hq
    · exact ⟨hk _ _ (N q hq).1, (N q hq).2⟩
  have F' := F.keeps hk
  have F2 := F'.push { cls := .type "list", data := .seq (as.map Value.ref).toArray }
  have N2 : News h₀ L (h'.push { cls := .type "list", data := .seq (as.map Value.ref).toArray }) (T ++ nw) := N'.grown fun b x e => Heap.get?_push_of_some _ e
  have hB := kdx_fresh F' (Nat.le_refl _)
  have hgB := Heap.get?_push_size h' (show ({ cls := .type "list", data := .seq (as.map Value.ref).toArray } : Obj).isFreed = false from rfl)
  refine wpAny_bind (wpAny_holding (wpAny_call_entry slot_list_sort ⟨_, hgB, rfl⟩ entry_list_sort ?body (args_list_sort _)))
  case body =>
    refine list_sort_items (s := ⟨h'.push { cls := .type "list", data := .seq (as.map Value.ref).toArray }, s.gens, s.drawn, tk, s.os⟩) F2 N2 hgB hB.1 hB.2 (fun p hp => Nat.ne_of_lt (Heap.lt_size (N' p hp).1)) (PT.mono fun p hp _ => List.mem_append_left _ hp) hs h64 fun c h'' F'' N'' => ?_
    refine y1_1 _ (ya2 rfl (wpAny_pure ⟨_, rfl, ?_⟩))
    exact h h'.objs.size c h'' tk as T F'' N'' (allLt_of fun p hp => Heap.lt_size (N' p hp).1) PT hl
end
end Items
section Tup
local macro_rules | `(tactic| walk_at $s:str) => do
  let k := Lean.Syntax.mkStrLit ("Tup:" ++ s.getString)
  `(tactic| k_extra $k)
example : True := by
  (k_with "Tup:call ref" => k_here; (with_reducible show wpAny _ _ (call (Value.ref 63) _) _ _ _); refine wpAny_call ?_; k_dflt (refine' iteritems_spec (by walk_at "m_cx") (by k_asm) (by k_asm) (by walk_at "m_hh") (by k_mem) (by k_asm) (by k_asm) ?_); intro _ _ _ _ _ _; dsimp only)
  (k_with "Tup:call builtin:sorted" => k_here; (with_reducible show wpAny _ _ (call (Value.builtin "sorted") [Value.ref _]) _ _ _); k_dflt (refine' sorted_items_M (by walk_at "m_hh") (by k_asm) (by k_asm) (by k_mem) (by k_mem) (by k_asm) (by k_asm) (by k_asm) ?_); intro _ _ _ _ _ _ _ _ _ _ _; dsimp only)
  trivial
noncomputable def IsKey (l : Led) (a : Addr) (kvs : List (Str × Value)) (fin : Bool) : Prop := ∃ b as, (a, tupObj #[.ref b, .bool fin]) ∈ l ∧ (b, tupObj (as.map Value.ref).toArray) ∈ l ∧ PairTups l as kvs
theorem tup_end {h₀ h : Heap} {L D D1 B v : Addr} {nw T : Led} {as : List Addr} {o ov : Obj} {kvs : List (Str × Value)} {fin : Bool} (N : News h₀ L h ((D, tupObj #[.ref D1, .bool fin]) :: (D1, tupObj (as.map Value.ref).toArray.toList.toArray) :: (B, o) :: (T ++ (v, ov) :: nw))) (hP : PairTups T as kvs) :
    ∃ T', News h₀ L h (T' ++ nw) ∧ IsKey T' D kvs fin := by
  refine ⟨(D, tupObj #[.ref D1, .bool fin]) :: (D1, tupObj (as.map Value.ref).toArray) :: (B, o) :: (T ++ [(v, ov)]), by simpa using N, D1, as, .head _, .tail _ (.head _), hP.mono fun p hp _ => .tail _ (.tail _ (.tail _ (List.mem_append_left _ hp)))⟩
theorem node_tuple_spec : ∀ {w : World} {A : Around} {s : Shared} {h₀ : Heap} {L : Addr} {m : Str → Option Value} {nw : Led} (C : Cx w A h₀ L 3) (F : Fr h₀ L s.heap m) (N : News h₀ L s.heap nw)
    (hh : A.handled = none) {R : Result → Shared → Prop} {x dx ar : Addr} {n : Int} {fin : Bool} {o : Obj} {kvs : List (Str × Value)} (hn : NodeAt nw x dx n ar fin) (ho : (ar, o) ∈ nw) (hd : o.IsDictOf (PySem.strKind prog w) kvs) (hlo : (ar == sysModules) = false)
    (h64 : kvs.length < 64) (hs : kvs.Pairwise fun x y => x.1.cps.toList < y.1.cps.toList)
    (_h : ∀ h' tk' a T, Fr h₀ L h' m → News h₀ L h' (T ++ nw) → IsKey T a kvs fin → R (.ok (.ret (.ref a))) ⟨h', s.gens, s.drawn, tk', s.os⟩),
    codeAny (model prog w) A (.call (.ref 348) ⟨[.ref x], []⟩) R s := by
  intro w A s h₀ L m nw
  refine Cx.el ?_
  (intro X₀ lo mean mg mb T A₀ base outer env B hA hf hke hdep hun F N hh R x dx ar n fin o kvs; refine x0_2 ?_; intro hn1; refine x7_1 ?_; intro g1 g2 g3 t1 t2 t3 tn hn2; intro ho hd hlo h64 hs h)
  refine fillIt ?_
  k_fill
  intro _
  w_strict (
    walk_at "m_enter"
    intro g' L' h' FG' F' N' B' X' T'
    (try dsimp only [b12_3, b12_3s])
    k_fold
    refine fr_open [(Str.ofString "self", _)] F' (by walk_at "m_names") ?_
    clear F'
    intro m0 F'
    dsimp only [over] at F'
    k_steps
    rename PairTups _ _ _ => hP
    rename (News h₀ L _ _) => nF
    (refine feed (tup_end nF hP) ?_; refine x1_1 ?_; intro T₂; refine x0_2 ?_; intro n1 n2)
    exact h _ _ _ T₂ (by assumption) n1 n2)
end Tup
section Dfam
local macro_rules | `(tactic| walk_at $s:str) => do
  let k := Lean.Syntax.mkStrLit ("Dfam:" ++ s.getString)
  `(tactic| k_extra $k)
local macro_rules | `(tactic| walk_at "zz") => `(tactic| skip)
example : True := by
  (k_with "Dfam:call builtin:dict.get" => k_here; (with_reducible show wpAny _ _ (call (Value.builtin "dict.get") [Value.ref _, Value.int _ _, _]) _ _ _); k_dflt (refine' get2_M (knd := intKind prog _) (by k_asm) (by k_mem) (by k_asm) (by k_asm) (intKind_is _ _ _ _) ?_))
  (k_with "Dfam:call builtin:dict.get" => k_here; (with_reducible show wpAny _ _ (call (Value.builtin "dict.get") [Value.ref _, Value.str _ _, _]) _ _ _); k_dflt (refine' get2_M (knd := PySem.strKind prog _) (by k_asm) (by k_mem) (by k_asm) (by k_asm) (strKind_is _ _ _ _) ?_))
  (k_with "Dfam:compareOp In int ref" => k_here; (with_reducible show wpAny _ _ (compareOp CmpOp.In (Value.int _ _) (Value.ref _)) _ _ _); k_dflt (refine' setin_M (knd := intKind prog _) (by k_asm) (by k_mem) (by k_asm) (intKind_is _ _ _ _) rfl (by k_asm) ?_))
  trivial
theorem start_spec : ∀ {w : World} {A : Around} {s : Shared} {h₀ : Heap} {L : Addr} {m : Str → Option Value} {nw : Led} (C : Cx w A h₀ L 0) (F : Fr h₀ L s.heap m) (N : News h₀ L s.heap nw)
    (hh : A.handled = none) {R : Result → Shared → Prop} {x dx tr de fs ol : Addr} (hd : DfaAt nw x dx tr de fs ol)
    (_h : ∀ h' tk' t', Fr h₀ L h' m → News h₀ L h' nw → R (.ok (.ret (.int 0 t'))) ⟨h', s.gens, s.drawn, tk', s.os⟩),
    codeAny (model prog w) A (.call (.ref 236) ⟨[.ref x], []⟩) R s := by
  intro w A s h₀ L m nw
  refine Cx.el ?_
  (intro X₀ lo mean mg mb T A₀ base outer env B hA hf hke hdep hun F N hh R x dx tr de fs ol; refine x0_2 ?_; intro d1; refine x11_1 ?_; intro g1 g2 g3 g4 g5 t1 t2 t3 t4 t5 tn d2; intro h)
  refine fillIt ?_
  k_fill
  intro _
  w_strict (
    walk_at "m_enter"
    intro g' L' h' FG' F' N' B' X' T'
    (try dsimp only [b11_1, b11_1s])
    k_fold
    refine fr_open [(Str.ofString "self", _)] F' (by walk_at "m_names") ?_
    clear F'
    intro m0 F'
    dsimp only [over] at F'
    k_steps
    exact h _ _ _ (by assumption) (by assumption))
theorem final_spec : ∀ {w : World} {A : Around} {s : Shared} {h₀ : Heap} {L : Addr} {m : Str → Option Value} {nw : Led} (C : Cx w A h₀ L 0) (F : Fr h₀ L s.heap m) (N : News h₀ L s.heap nw)
    (hh : A.handled = none) {R : Result → Shared → Prop} {x dx tr de fs ol : Addr} (hd : DfaAt nw x dx tr de fs ol) {q : Int} {t : Tok} {o : Obj} {S : Int → Bool} {n : Nat} (ho : (fs, o) ∈ nw) (hS : o.SetObjOf (intKind prog w) S n) (hn : n < scanBound)
    (_h : ∀ h' tk', Fr h₀ L h' m → News h₀ L h' nw → R (.ok (.ret (.bool (S q)))) ⟨h', s.gens, s.drawn, tk', s.os⟩),
    codeAny (model prog w) A (.call (.ref 264) ⟨[.ref x, .int q t], []⟩) R s := by
  intro w A s h₀ L m nw
  refine Cx.el ?_
  (intro X₀ lo mean mg mb T A₀ base outer env B hA hf hke hdep hun F N hh R x dx tr de fs ol; refine x0_2 ?_; intro d1; refine x11_1 ?_; intro g1 g2 g3 g4 g5 t1 t2 t3 t4 t5 tn d2; intro q t o S n ho hS hn h)
  refine fillIt ?_
  k_fill
  intro _
  w_strict (
    walk_at "m_enter"
    intro g' L' h' FG' F' N' B' X' T'
    (try dsimp only [b11_5, b11_5s])
    k_fold
    refine fr_open [(Str.ofString "self", _), (Str.ofString "state", _)] F' (by walk_at "m_names") ?_
    clear F'
    intro m0 F'
    dsimp only [over] at F'
    k_steps
    exact h _ _ (by assumption) (by assumption))
/-- what the arcs of a state are -/
noncomputable def TransAt {w : World} (l : Led) (kvs : List (Int × Value)) (q : Int) (kv : List (Str × Value)) : Prop :=
  (valueAt kvs q = none ∧ kv = []) ∨ ∃ a o, valueAt kvs q = some (.ref a) ∧ (a, o) ∈ l ∧ o.IsDictOf (PySem.strKind prog w) kv ∧ (a == sysModules) = false
theorem trans_get {w : World} {l l' : Led} {kvs : List (Int × Value)} {q : Int} {kv : List (Str × Value)} {d : Addr} {o : Obj} (h : TransAt (w := w) l kvs q kv) (hs : ∀ p ∈ l, p ∈ l') (hm : (d, o) ∈ l') (hi : o.IsDictOf (PySem.strKind prog w) []) (lo : (d == sysModules) = false) :
    ∃ a o', (valueAt kvs q).getD (.ref d) = .ref a ∧ (a, o') ∈ l' ∧ o'.IsDictOf (PySem.strKind prog w) kv ∧ (a == sysModules) = false := by
  rcases h with ⟨e, rfl⟩ | ⟨a, o', e, h1, h2, h3⟩
  · exact y2_1 d o (ya4 (by rw [e]; rfl) hm hi lo)
  · exact y2_1 a o' (ya4 (by rw [e]; rfl) (hs _ h1) h2 h3)
theorem next_spec : ∀ {w : World} {A : Around} {s : Shared} {h₀ : Heap} {L : Addr} {m : Str → Option Value} {nw : Led} (C : Cx w A h₀ L 0) (F : Fr h₀ L s.heap m) (N : News h₀ L s.heap nw)
    (hh : A.handled = none) {R : Result → Shared → Prop} {x dx tr de fs ol : Addr} (hd : DfaAt nw x dx tr de fs ol) {q : Int} {t : Tok} {lb : Str} {tl : Tok} {ot od : Obj} {kvs : List (Int × Value)} (ho : (tr, ot) ∈ nw) (hT : ot.IsDictOf (intKind prog w) kvs) (lo1 : (tr == sysModules) = false)
    (ho2 : (de, od) ∈ nw) (hD : od.IsDictOf (intKind prog w) []) (lo2 : (de == sysModules) = false)
    {kv : List (Str × Value)} (hin : TransAt (w := w) nw kvs q kv)
    (_h : ∀ h' tk', Fr h₀ L h' m → News h₀ L h' nw → R (.ok (.ret ((valueAt kv lb).getD .none))) ⟨h', s.gens, s.drawn, tk', s.os⟩),
    codeAny (model prog w) A (.call (.ref 271) ⟨[.ref x, .int q t, .str lb tl], []⟩) R s := by
  intro w A s h₀ L m nw
  refine Cx.el ?_
  (intro X₀ lo mean mg mb T A₀ base outer env B hA hf hke hdep hun F N hh R x dx tr de fs ol; refine x0_2 ?_; intro d1; refine x11_1 ?_; intro g1 g2 g3 g4 g5 t1 t2 t3 t4 t5 tn d2; intro q t lb tl ot od kvs ho hT lo1 ho2 hD lo2 kv hin h)
  refine fillIt ?_
  k_fill
  intro _
  w_strict (
    walk_at "m_enter"
    intro g' L' h' FG' F' N' B' X' T'
    (try dsimp only [b11_6, b11_6s])
    k_fold
    refine fr_open [(Str.ofString "self", _), (Str.ofString "src", _), (Str.ofString "label", _)] F' (by walk_at "m_names") ?_
    clear F'
    intro m0 F'
    dsimp only [over] at F'
    k_steps
    (refine feed (trans_get hin (fun p hp => List.Mem.tail _ hp) (.head _) (by assumption) (by assumption)) ?_; refine x2_1 ?_; intro a oa; refine x0_4 ?_; intro ea ma ia la)
    rw [ea]
    k_steps
    exact h _ _ (by assumption) (news_keep (by assumption) (Keep.cons (.refl _) _)))
end Dfam
section Keys
theorem strsAre_of {w : World} : ∀ (vs : List Value) (kvs : List (Str × Value)), vs.length = kvs.length → (∀ (j : Nat) (v : Value), vs[j]? = some v → ∃ k x, kvs[j]? = some (k, x) ∧ (PySem.strKind prog w).is k v = true) → StrsAre vs (kvs.map (·.1))
  | [], [], _, _ => .nil
  | [], _ :: _, h, _ => by simp at h
  | _ :: _, [], h, _ => by simp at h
  | v :: vs, kv :: kvs, hl, h => by
    (refine feed (h 0 v rfl) ?_; refine x2_1 ?_; intro k x; refine x0_2 ?_; intro e hk)
    have e' : kv = (k, x) := by simpa using e
    subst e'
    (refine feed (Value.isStrOf_shape hk) ?_; refine x1_1 ?_; intro t; intro zz9; subst zz9)
    exact .cons k t (strsAre_of vs kvs (by simpa using hl) fun j u hu => by
      (refine feed (h (j + 1) u (by simpa using hu)) ?_; refine x2_1 ?_; intro k' x'; refine x0_2 ?_; intro e1 e2)
      exact y2_1 k' x' (ya2 (by simpa using e1) e2))
section
variable {w : World} {A : Around} {E : Value → Shared → Prop} {s : Shared} {h₀ : Heap} {L D : Addr} {m : Str → Option Value} {nw : Led}
theorem lsort_strs {vs : List Value} {ss : List Str} {n : Nat} {Q : Value → Shared → Prop} (F : Fr h₀ L s.heap m) (N : News h₀ L s.heap ((D, listOf vs.toArray n) :: nw)) (hx : ∀ p ∈ nw, p.1 ≠ D) (hS : StrsAre vs ss) (h64 : vs.length < 64)
    (h : ∀ vs' ss' c h', Fr h₀ L h' m → News h₀ L h' ((D, listOf (List.toArray vs') c) :: nw) → StrsAre vs' ss' → ss'.Perm ss → ss'.Pairwise (fun a b => ¬ b.cps.toList < a.cps.toList) → Q .none { s with heap := h' }) :
    wpAny (model prog w) A (call (.builtin "list.sort") [.ref D]) Q E s := by
  have z := N (D, listOf vs.toArray n) (.head _)
  have ho : s.heap.get? D = some (seqObj "list" vs.toArray n) := z.1
  refine wpAny_call_entry PyProof.Rows.slot_list_sort ⟨_, z.1, rfl⟩ PyProof.Rows.entry_list_sort (list_sort_treeK strKind_oneLt ho hS.keysOf (fun v₁ v₂ rest e => keyKind_strs (by rw [← e]; exact hS)) h64 fun st' hp hs => ⟨.none, rfl, ?_⟩) (PyProof.Rows.args_list_sort _)
  (refine feed (sortedHeap_at (vs := vs) (out := (arrOf st').map (·.2)) ho) ?_; refine x1_1 ?_; intro c hc)
  have F4 : Fr h₀ L (sortedHeap s.heap D vs ((arrOf st').map (·.2))) m :=
    ksk_fr (((ksk_fr F (Heap.SameBut.update s.heap D (Obj.mapSeq fun _ => #[])) z.2.1 z.2.2).push (seqObj "tuple" vs.toArray 0)).push (seqObj "list" #[] 0)) (Heap.SameBut.update _ D (Obj.mapSeq fun _ => (arrOf st').map (·.2))) z.2.1 z.2.2
  (refine feed (sorted_out_str hS hp hs) ?_; refine x1_1 ?_; intro ss'; refine x0_3 ?_; intro h1 h2 h3)
  have h4 : ss'.Pairwise (fun a b => ¬ b.cps.toList < a.cps.toList) := by
    have hl : (arrOf st').toList.Perm (vs.zip vs) := by rw [← pairsOf_toList]; exact Array.perm_iff_toList_perm.mp hp
    have hmem : ∀ p, p ∈ (arrOf st').toList → p.1 = p.2 ∧ p.1 ∈ vs := fun p hp' => mem_zip_self (hl.mem_iff.mp hp')
    have e1 : ss' = (arrOf st').toList.map (fun p => strOf p.1) := by
      rw [← h1.strs, Array.toList_map, List.map_map]
      exact List.map_congr_left fun p hp' => by show strOf p.2 = strOf p.1; rw [(hmem p hp').1]
    rw [e1, List.pairwise_iff_getElem]
    intro i j hi hj hij
    have hi' : i < (arrOf st').size := by simpa using hi
    have hj' : j < (arrOf st').size := by simpa using hj
    have k1 := hs i j (Nat.le_of_lt hij) (by rw [← hp.size_eq]; exact hj')
    (refine feed (hS.all _ (hmem (arrOf st')[i] (by simp)).2) ?_; refine x2_1 ?_; intro x t ex)
    (refine feed (hS.all _ (hmem (arrOf st')[j] (by simp)).2) ?_; refine x2_1 ?_; intro y u ey)
    rw [KK_str hi' (x := x) (t := t) (q := (arrOf st')[i].2) (Prod.ext ex rfl), KK_str hj' (x := y) (t := u) (q := (arrOf st')[j].2) (Prod.ext ey rfl)] at k1
    change decide (y.cps.toList < x.cps.toList) = false at k1
    simp only [List.getElem_map, Array.getElem_toList]
    rw [show strOf (arrOf st')[i].1 = x by rw [ex]; rfl, show strOf (arrOf st')[j].1 = y by rw [ey]; rfl]
    exact of_decide_eq_false k1
  refine h _ ss' c _ F4 ?_ h1 h2 h4
  intro p hq
  rcases List.mem_cons.mp hq with rfl | hq
  · exact ⟨by rw [Array.toArray_toList]; exact hc, z.2⟩
  · have y := N p (.tail _ hq)
    exact ⟨(sortedHeap_old (hx p hq) (Heap.lt_size y.1)).trans y.1, y.2⟩
theorem sorted_keys_M {d : Addr} {o : Obj} {kvs : List (Str × Value)} {Q : Value → Shared → Prop} (hh : A.handled = none) (F : Fr h₀ L s.heap m) (N : News h₀ L s.heap nw) (hp : (d, o) ∈ nw) (hd : o.IsDictOf (PySem.strKind prog w) kvs) (lo : (d == sysModules) = false) (h64 : kvs.length < 64)
    (h : ∀ B c h' tk vs ss, Fr h₀ L h' m → News h₀ L h' ((B, listOf (List.toArray vs) c) :: nw) → AllLt B nw → StrsAre vs ss → ss.Perm (kvs.map (·.1)) → ss.Pairwise (fun a b => ¬ b.cps.toList < a.cps.toList) → Q (.ref B) ⟨h', s.gens, s.drawn, tk, s.os⟩) :
    wpAny (model prog w) A (call (.builtin "sorted") [.ref d]) Q E s := by
  (refine feed (KdkAt.of hd) ?_; refine x1_1 ?_; intro ep hat)
  refine kdu_sorted (kdl_dict (knd := PySem.strKind prog w) (kvs := kvs) (ep := ep) lo) hh F N (hat.dictAt (N _ hp).1) (by rw [sizeLine_eq]; lia) fun B h' tk vs F' N' l1 hl hP => ?_
  have hS := strsAre_of vs kvs hl hP
  refine lsort_strs F' N' (fun p hp => Nat.ne_of_lt (l1 p hp)) hS (by lia) fun vs' ss' c h'' F'' N'' a1 a2 a3 => ?_
  exact h B c h'' tk vs' ss' F'' N'' (allLt_of l1) a1 a2 a3
end
end Keys
section Bisect
theorem bis_entry : entryFor table "_bisect.bisect_left" = some Builtin.«_bisect.bisect_left» := entryFor_of_fast (by kernel_rfl)
theorem bis_entryL : entryFor table "_bisect.bisect_right.loop" = some Builtin.«_bisect.bisect_right.loop» := entryFor_of_fast (by kernel_rfl)
theorem bis_plainL : plainId "_bisect.bisect_right.loop" = true := by decide +kernel
theorem bis_args (a b : Value) : argsOk "_bisect.bisect_left" ⟨[a, b], []⟩ := by unfold argsOk; kernel_rfl
section
variable {w : World} {A : Around} {E : Value → Shared → Prop} {s : Shared}
theorem cut_list {a : Addr} {n : Nat} {Q : String → Shared → Prop} (hT : s.TypeIs (.ref a) "list") (h : Q "list" s) : wpAny (model prog w) A (typeNameOfCut n (.ref a)) Q E s := by
  unfold typeNameOfCut shownTypeOf
  refine wpAny_bind (wpAny_bind (wpAny_typeOf hT ?_))
  rw [show (Value.type "list" == Value.type "builtin_function_or_method") = false by decide]
  refine wpAny_pure ?_
  rw [show typeNameCut n (.type "list") = typeName (.type "list") from rfl, show typeName (.type "list") = pure "list" by unfold typeName; rw [find?_eq_fast]; kernel_rfl]
  exact wpAny_pure h
theorem special_item {l : Addr} {items : Array Value} {k : Int} {t : Tok} {x : Value} {Q : Option Value → Shared → Prop} (hl : s.heap.IsList l items)
    (h0 : 0 ≤ k) (hfit : k < 2 ^ 63) (hx : items[k.toNat]? = some x) (h : Q (some x) s) : wpAny (model prog w) A (callSpecial? (.ref l) (Str.ofString "__getitem__") [.int k t]) Q E s := by
  obtain ⟨o, ho, hc, ne, hd⟩ := id hl
  refine wpAny_callSpecial?_slot (name := Str.ofString "__getitem__") hl.typeIs PySem.slot_list_getitem
    (wpAny_call_entry PySem.slot_list_getitem hl.typeIs PySem.entry_list_getitem ?_ (PySem.args_list_getitem _ _))
  show wpAny _ _ (Builtin.List.listSubscript? (.int k t) >>= _) _ _ s
  refine wpAny_bind (wpAny_listSubscript_int (fitsIndex_of h0 hfit) ?_)
  clear hfit
  (refine feed (Int.eq_ofNat_of_zero_le h0) ?_; refine x1_1 ?_; intro j; intro zz9; subst zz9)
  have hx' : items[j]? = some x := hx
  show wpAny _ _ ((seqItemAt l j >>= fun r => pure (r.map (j, ·))) >>= _) _ _ s
  refine wpAny_bind (wpAny_bind (wpAny_seqItemAt ho hd (wpAny_pure ?_)))
  rw [hx']
  first
    | exact wpAny_bind (wpAny_pure (wpAny_pure ⟨x, rfl, h⟩))
    | exact wpAny_pure ⟨x, rfl, h⟩
theorem lt_direct {a b : Str} {t u : Tok} {Q : Option Value → Shared → Prop} (h : Q (some (.bool (decide (a.cps.toList < b.cps.toList)))) s) : wpAny (model prog w) A (callSpecialIfBound? (.str a t) (Str.ofString "__lt__") [.str b u]) Q E s :=
  wpAny_callSpecialIfBound?_slot (typeIs_str s a t) PyProof.Rows.slot_str_lt (call_str_lt h)
theorem bis_loop {l : Addr} {vs : List Value} {x : Str} {tx : Tok} {ss : List Str} {R : Result → Shared → Prop} (hl : s.heap.IsList l vs.toArray) (hS : StrsAre vs ss) (hz : vs.length < 1000)
    (hsd : ss.Pairwise (fun a b => ¬ b.cps.toList < a.cps.toList))
    (h : ∀ (pos : Nat) (tk : Nat) (t : Tok), pos ≤ ss.length → (∀ i y, i < pos → ss[i]? = some y → y.cps.toList < x.cps.toList) → (∀ i y, pos ≤ i → ss[i]? = some y → ¬ y.cps.toList < x.cps.toList) → R (.ok (.ret (.int pos t))) { s with toks := tk }) :
    ∀ (k lo hi : Nat) (tk : Nat), hi - lo = k → lo ≤ hi → hi ≤ ss.length → (∀ i y, i < lo → ss[i]? = some y → y.cps.toList < x.cps.toList) → (∀ i y, hi ≤ i → ss[i]? = some y → ¬ y.cps.toList < x.cps.toList) →
      codeAny (model prog w) A (.builtin "_bisect.bisect_right.loop" ⟨[.ref l, .str x tx, .int lo 0, .int hi 0, .none, .bool false, .bool true, .int 0 0], []⟩) R { s with toks := tk } := by
  have hlen : ss.length = vs.length := hS.length.symm
  intro k
  induction k using Nat.strongRecOn with
  | ind k ih =>
    intro lo hi tk hk hlh hhi h1 h2
    refine codeAny_builtin bis_entryL ?_
    rw [Around.under_plainId bis_plainL _]
    unfold Builtin.«_bisect.bisect_right.loop»
    dsimp only
    by_cases hlt : lo < hi
    · rw [if_pos (by lia)]
      (refine feed (show ∃ mid : Nat, mid = (lo + hi) / 2 from ⟨_, rfl⟩) ?_; refine x1_1 ?_; intro mid hmid)
      have hm1 : lo ≤ mid := by lia
      have hm2 : mid < hi := by lia
      have emid : ((lo : Int) + (hi : Int)) / 2 = (mid : Int) := by lia
      rw [emid]
      obtain ⟨y, hy⟩ : ∃ y, ss[mid]? = some y := ⟨ss[mid], List.getElem?_eq_getElem (by lia)⟩
      obtain ⟨ty, hv⟩ : ∃ t, vs[mid]? = some (.str y t) := by
        have e := hS.strs
        rw [← e, List.getElem?_map] at hy
        cases hvm : vs[mid]? with
        | none => rw [hvm] at hy; cases hy
        | some v =>
          (refine feed (hS.all v (List.mem_of_getElem? hvm)) ?_; refine x2_1 ?_; intro x' t'; intro zz9; subst zz9)
          rw [hvm] at hy
          simp only [Option.map_some, Option.some.injEq] at hy
          exact y1_1 t' (by rw [← hy]; rfl)
      obtain ⟨o, ho, hc, ne, hd⟩ := id hl
      have hT : ∀ tk, Shared.TypeIs { s with toks := tk } (.ref l) "list" := fun tk => ⟨o, ho, hc⟩
      refine wpAny_bind (wpAny_mkInt ?_)
      refine wpAny_bind (special_item (k := (mid : Int)) hl (by lia) (by lia) (by simpa using hv) ?_)
      refine wpAny_ite_split (fun _ => ?_) (fun hab => absurd rfl hab)
      refine wpAny_bind (wpAny_pure ?_)
      refine wpAny_holding ?_
      show wpAny _ _ (typeOf (.str y ty) >>= _) _ _ _
      refine wpAny_bind (wpAny_typeOf (typeIs_str _ y ty) ?_)
      refine wpAny_bind (wpAny_typeOf (typeIs_str _ x tx) ?_)
      refine wpAny_ite_split (fun _ => ?_) (fun hab => absurd (by decide) hab)
      refine wpAny_bind (wpAny_cRoomFor_byValue rfl ?_)
      refine wpAny_bind (lt_direct ?_)
      show wpAny _ _ (truthOfDropped (.bool _) >>= _) _ _ _
      refine wpAny_bind (wpAny_truthy_bool ?_)
      refine wpAny_bind (wpAny_pure ?_)
      by_cases hyx : y.cps.toList < x.cps.toList
      · have e : decide (y.cps.toList < x.cps.toList) = true := decide_eq_true hyx
        rw [e, if_neg (by decide)]
        have e2 : ((mid : Int) + 1) = ((mid + 1 : Nat) : Int) := by lia
        rw [e2]
        refine wpAny_pure ⟨plainId_quiet bis_plainL _, ih (hi - (mid + 1)) (by lia) (mid + 1) hi _ rfl (by lia) hhi (fun i z hi' hz => ?_) h2⟩
        rcases Nat.lt_or_ge i mid with hi'' | hi''
        · have g1 := List.getElem?_eq_some_iff.mp hz
          have g2 := List.getElem?_eq_some_iff.mp hy
          have := List.pairwise_iff_getElem.mp hsd i mid g1.1 g2.1 hi''
          rw [g1.2, g2.2] at this
          exact List.lt_of_le_of_lt (List.not_lt.mp this) hyx
        · have : i = mid := by lia
          subst this
          rw [hz] at hy
          cases hy
          exact hyx
      · have e : decide (y.cps.toList < x.cps.toList) = false := decide_eq_false hyx
        rw [e]
        refine wpAny_ite_split (fun _ => ?_) (fun hab => absurd (by decide) hab)
        refine wpAny_pure ⟨plainId_quiet bis_plainL _, ih (mid - lo) (by lia) lo mid _ rfl hm1 (by lia) h1 (fun i z hi' hz hlt' => ?_)⟩
        rcases Nat.lt_or_ge mid i with hi'' | hi''
        · have g1 := List.getElem?_eq_some_iff.mp hz
          have g2 := List.getElem?_eq_some_iff.mp hy
          have := List.pairwise_iff_getElem.mp hsd mid i g2.1 g1.1 hi''
          rw [g1.2, g2.2] at this
          exact hyx (List.lt_of_le_of_lt (List.not_lt.mp this) hlt')
        · have : i = mid := by lia
          subst this
          rw [hz] at hy
          cases hy
          exact hyx hlt'
    · rw [if_neg (by lia)]
      have : lo = hi := by lia
      subst this
      show wpAny _ _ (retInt (lo : Int)) _ _ _
      unfold retInt
      refine wpAny_bind (wpAny_mkInt (wpAny_pure ?_))
      exact h lo _ _ hhi h1 h2
theorem call_fn_again {id : String} {b : Builtin} {args : List Value} {Q : Value → Shared → Prop} (hk : builtinKind id = none) (hp : plainId id = true)
    (hb : entryFor table id = some b) (ha : argsOk id ⟨args, []⟩)
    (hc : wpAny (model prog w) A.in1 (b ⟨args, []⟩) (fun fin s' => match fin with
      | .done f => (match (Except.ok f : Result) with | .ok (.ret v) => Q v s' | .ok _ => False | .error e => E e s')
      | .again c' => c'.quiet = true ∧ codeAny (model prog w) A c' (fun r s' => match r with | .ok (.ret v) => Q v s' | .ok _ => False | .error e => E e s') s') E s) : wpAny (model prog w) A (call (.builtin id) args) Q E s := by
  refine wpAny_call (codeAny_call_builtin hp hb ?_)
  simp only [checkBuiltinCall, hk]
  cases hsig : Manifest.signature? id with
  | none => exact wpAny_pure hc
  | some sig =>
    simp only [argsOk, hsig] at ha
    have h2 : Bind.checkArgs id sig ⟨args, []⟩ = pure () := ha
    show wpAny _ A.in1 (Bind.checkArgs id sig ⟨args, []⟩) _ _ s
    rw [h2]; exact wpAny_pure hc
theorem bisect_M {l : Addr} {vs : List Value} {x : Str} {tx : Tok} {ss : List Str} {Q : Value → Shared → Prop} (hl : s.heap.IsList l vs.toArray) (hS : StrsAre vs ss) (hz : vs.length < 1000)
    (hsd : ss.Pairwise (fun a b => ¬ b.cps.toList < a.cps.toList))
    (h : ∀ (pos : Nat) (tk : Nat) (t : Tok), pos ≤ ss.length → (∀ i y, i < pos → ss[i]? = some y → y.cps.toList < x.cps.toList) → (∀ i y, pos ≤ i → ss[i]? = some y → ¬ y.cps.toList < x.cps.toList) → Q (.int pos t) { s with toks := tk }) :
    wpAny (model prog w) A (call (.builtin "_bisect.bisect_left") [.ref l, .str x tx]) Q E s := by
  have hT := hl.typeIs
  refine call_fn_again (by decide +kernel) (by decide +kernel) bis_entry (bis_args _ _) ?_
  refine wpAny_bind (wpAny_of_eq (a := (Value.ref l, Value.str x tx, none, none, none)) (by rfl) ?_)
  have lk1 : typeLookup (.type "list") "__len__" = pure (some (.builtin "list.__len__")) := PySem.slot_list_len.lookup
  have lk2 : typeLookup (.type "list") "__getitem__" = pure (some (.builtin "list.__getitem__")) := PySem.slot_list_getitem.lookup
  have key : ∀ {Q : Value → Shared → Prop} {E : Value → Shared → Prop}, (∀ t tk, Q (.int vs.length t) { s with toks := tk }) → wpAny (model prog w) A.in1 (runValue (.builtin "len" ⟨[.ref l], []⟩)) Q E s := by
    intro Q E hq
    refine wpAny_runValue (codeAny_builtin entry_len ?_)
    rw [Around.under_plainId plain_len _]
    refine wpAny_mono (wpAny_len_body_list (Q := Q) hl (by simp only [List.size_toArray]; lia) (by simpa using hq _ _)) (fun fin s' h' => by (revert h'; refine x1_1 ?_; intro r; refine x0_2 ?_; intro zz9; subst zz9; intro hq); exact hq) fun _ _ e => e
  have hT' : ∀ tk, Shared.TypeIs { s with toks := tk } (.ref l) "list" := fun tk => hT
  refine wpAny_bind (wpAny_pure ?_)
  refine wpAny_bind (wpAny_pure ?_)
  refine wpAny_ite_split (fun hab => absurd hab Bool.false_ne_true) (fun _ => ?_)
  refine wpAny_bind (wpAny_pure ?_)
  refine wpAny_holding ?_
  refine wpAny_ite_split (fun hab => absurd hab (by decide)) (fun _ => ?_)
  refine wpAny_ite_split (fun hab => absurd hab (by decide)) (fun _ => ?_)
  refine wpAny_bind ?_
  refine wpAny_bind (wpAny_typeOf hT ?_)
  refine wpAny_bind (cut_list hT ?_)
  refine wpAny_bind (wpAny_of_eq (PySem.F.mro_list) ?_)
  refine wpAny_ite_split (fun hab => absurd hab (by decide)) (fun _ => ?_)
  refine wpAny_ite_split (fun _ => ?_) (fun hab => absurd rfl hab)
  refine wpAny_bind (wpAny_of_eq lk1 ?_)
  refine wpAny_ite_split (fun hab => absurd hab Bool.false_ne_true) (fun _ => ?_)
  refine wpAny_ite_split (fun hab => absurd hab (by decide)) (fun _ => ?_)
  refine wpAny_pure ?_
  refine wpAny_bind (key fun t tk => ?_)
  refine wpAny_bind (wpAny_pure ?_)
  refine wpAny_bind ?_
  refine wpAny_bind (wpAny_typeOf (hT' _) ?_)
  refine wpAny_bind (cut_list (hT' _) ?_)
  refine wpAny_bind (wpAny_of_eq (PySem.F.mro_list) ?_)
  refine wpAny_ite_split (fun hab => absurd hab (by decide)) (fun _ => ?_)
  refine wpAny_ite_split (fun hab => absurd hab Bool.false_ne_true) (fun _ => ?_)
  refine wpAny_bind (wpAny_of_eq lk2 ?_)
  refine wpAny_ite_split (fun hab => absurd hab Bool.false_ne_true) (fun _ => ?_)
  refine wpAny_ite_split (fun hab => absurd hab (by decide)) (fun _ => ?_)
  refine wpAny_pure ?_
  refine wpAny_pure ⟨plainId_quiet bis_plainL _, ?_⟩
  have hlen := hS.length
  exact bis_loop (R := fun r s' => match r with | .ok (.ret v) => Q v s' | .ok _ => False | .error e => E e s') hl hS hz hsd (fun pos tk t h1 h2 h3 => h pos tk t h1 h2 h3) _ 0 vs.length tk rfl (Nat.zero_le _) (by lia) (fun i y hi => absurd hi (Nat.not_lt_zero _)) (fun i y hi hy => by
    have := (List.getElem?_eq_some_iff.mp hy).1
    lia)
end
end Bisect
section Catch
open Sem (wp)
/-- an exception at hand that has no context of its own -/
noncomputable def NoCtx (h : Heap) (eh : Addr) : Prop := ∃ o vs, h.get? eh = some o ∧ o.data = .fields vs ∧ vs[2]? = some .none
theorem NoCtx.keep {h h' : Heap} {eh : Addr} (x : NoCtx h eh) (k : ∀ o, h.get? eh = some o → h'.get? eh = some o) : NoCtx h' eh := let ⟨o, vs, ho, r⟩ := x; ⟨o, vs, k _ ho, r⟩
theorem NoCtx.lt {h : Heap} {eh : Addr} (x : NoCtx h eh) : eh < h.objs.size := let ⟨_, _, ho, _⟩ := x; Heap.lt_size ho
section
variable {M : Model} {A : Around} {E : Value → Shared → Prop} {s : Shared}
theorem newEntryX {base : Heap} {env : Env} {outer : List Env} {L e : Addr} {oe : Obj} {vs : Array Value} {head a0 : Value} {hadNext : Bool} {Q : Unit → Shared → Prop}
    (hfr : A.frames = some (env :: outer)) (hl : s.heap.FunFrames base (env :: outer)) (hf : env.frame = some L)
    (he : s.heap.get? e = some oe) (hkb : base.StaysIn s.heap) (hen : base.get? e = none) (hd : oe.data = .fields vs) (hsz : 1 < vs.size) (h0 : vs[0]? = some a0)
    (h : ∀ h', Heap.LeftW base (env :: outer) e oe.cls a0 s.heap h' → (∃ T, h'.get? e = some (oe.mapFields (·.setIfInBounds 1 (.ref T)))) → Q () { s with heap := h' }) :
    wpAny M A (do let a ← frameOf env; let pl ← entryPlaceOf L hadNext; let b ← EntryCells.newEntry head a .none (rawInt L) .none pl; setField (.ref e) 1 b) (fun _ s' => wpAny M A (setFlight (.ref e) none) Q E s') E s := by
  have hene : e ∉ (env :: outer).filterMap (·.frame) := fun hm => by
    obtain ⟨_, o, ho, hnf⟩ := hl.mem hm
    rw [he] at ho; injection ho with ho; subst ho; exact hnf vs hd
  refine wpAny_bind (wpAny_frameOf_fun hfr hl hf fun h₁ hs₁ => ?_)
  refine wpAny_bind (wpAny_entryPlaceOf fun pl hpl => ?_)
  unfold EntryCells.newEntry newFields
  refine wpAny_bind (wpAny_newObj_type ?_ (hpl.sizeOk5 _ _ _ _ _))
  have he₁ : h₁.get? e = some oe := (hs₁.2.1 e hene).trans he
  have kb₁ : base.StaysIn h₁ := fun b o hbo => (hs₁.2.1 b fun hm => by rw [(hl.mem hm).1] at hbo; cases hbo).trans (hkb b o hbo)
  have he₂ := Heap.get?_push_of_some (h := h₁) { cls := .type "traceback", dict := none, data := .fields ([head, .ref L, .none, rawInt L, .none] ++ (if pl.isEmpty then List.replicate 6 Value.none else pl)).toArray } he₁
  refine wpAny_setField he₂ hd hsz ?_
  have hTe : h₁.objs.size ≠ e := Nat.ne_of_gt (Heap.lt_size he₁)
  have hd₃ := Obj.data_mapFields hd (·.setIfInBounds 1 (Value.ref h₁.objs.size))
  have he₃ := Heap.get?_update_self (Obj.mapFields (·.setIfInBounds 1 (Value.ref h₁.objs.size))) he₂ (Obj.isFreed_of_fields hd₃)
  have hT₃ := (Heap.get?_update_other (h₁.push { cls := .type "traceback", dict := none, data := .fields ([head, .ref L, .none, rawInt L, .none] ++ (if pl.isEmpty then List.replicate 6 Value.none else pl)).toArray })
    (Obj.mapFields (·.setIfInBounds 1 (Value.ref h₁.objs.size))) (Ne.symm hTe)).trans (Heap.get?_push_size h₁ rfl)
  unfold setFlight
  refine wpAny_bind (wpAny_field he₃ hd₃ (x := .ref h₁.objs.size) (by simp [hsz]) ?_)
  rw [if_pos (show (Value.ref h₁.objs.size != Value.none) = true from by simp)]
  refine wpAny_setField hT₃ rfl (by simp only [List.size_toArray, List.length_append, List.length_cons, List.length_nil] <;> lia) (h _ ?_ ⟨_, by rw [Heap.get?_update_other _ _ hTe]; exact he₃⟩)

  have keep : ∀ b o, b ≠ e → h₁.get? b = some o →
      (((h₁.push { cls := .type "traceback", dict := none, data := .fields ([head, .ref L, .none, rawInt L, .none] ++ (if pl.isEmpty then List.replicate 6 Value.none else pl)).toArray }).update e (Obj.mapFields (·.setIfInBounds 1 (Value.ref h₁.objs.size)))).update h₁.objs.size
        (Obj.mapFields (·.setIfInBounds 3 ((none : Option Addr).elim Value.none fun f => rawInt f)))).get? b = some o := fun b o hbe hb => by
    have hbT : h₁.objs.size ≠ b := Nat.ne_of_gt (Heap.lt_size hb)
    rw [Heap.get?_update_other _ _ hbT, Heap.get?_update_other _ _ (Ne.symm hbe)]
    exact Heap.get?_push_of_some _ hb
  have noRecord : ∀ b o, s.heap.get? b = some o → (∀ vs, o.data ≠ .fields vs) → b ≠ e := fun b o hb hnf q => by
    rw [q, he] at hb; injection hb with hb; subst hb; exact hnf vs hd
  refine ⟨fun b o hbo => keep b o (fun q => by rw [q, hen] at hbo; cases hbo) (kb₁ b o hbo), hl.of_keeps fun b o hb hnf => ?_, ?_, fun b o hb hnf => ?_⟩
  · (refine feed (hs₁.2.2 b o hb) ?_; refine x1_1 ?_; intro sl hs)
    exact y1_1 _ (ya2 (keep b _ (noRecord b o hb hnf) hs) rfl)
  · refine y5_1 _ _ h₁.objs.size _ _ (ya9 ?_ ⟨Obj.cls_mapFields _ _, by rw [Array.getElem?_setIfInBounds_ne (by decide)]; exact h0⟩ hd₃ (by simp [hsz]) kb₁.fresh hTe (Heap.get?_update_self _ hT₃ (Obj.isFreed_of_fields (Obj.data_mapFields rfl _))) (Obj.data_mapFields rfl _) (by first | (simp; done) | (rcases hpl with rfl | ⟨_, _, _, _, _, _, _, rfl⟩ <;> simp)))
    rw [Heap.get?_update_other _ _ hTe]; exact he₃
  · (refine feed (hs₁.2.2 b o hb) ?_; refine x1_1 ?_; intro sl hs)
    exact y1_1 sl (keep b _ (noRecord b o hb hnf) hs)

theorem setFlightX {base : Heap} {l : List Env} {e : Addr} {cls a0 fl : Value} {Q : Unit → Shared → Prop}
    (hkb : base.StaysIn s.heap) (hl : s.heap.FunFrames base l) (ht : s.heap.TracedAtW base e cls a0 fl)
    (h : ∀ h', base.StaysIn h' → h'.FunFrames base l → h'.TracedW base e cls a0 → (∀ b o, s.heap.get? b = some o → (∀ vs, o.data ≠ .fields vs) → h'.get? b = some o) → h'.get? e = s.heap.get? e → Q () { s with heap := h' }) :
    wpAny M A (setFlight (.ref e) none) Q E s := by
  (revert ht; refine x5_1 ?_; intro oe vs T oT ts; refine x0_9 ?_; intro he hcls hd h1 hnT hTe hT hdT h3)
  have hsz3 : 3 < ts.size := (Array.getElem?_eq_some_iff.mp h3).1
  have other : ∀ b, b ≠ T → (s.heap.update T (Obj.mapFields (·.setIfInBounds 3 ((none : Option Addr).elim Value.none fun f => rawInt f)))).get? b = s.heap.get? b :=
    fun b hb => Heap.get?_update_other _ _ (Ne.symm hb)
  have noRecord : ∀ b o, s.heap.get? b = some o → (∀ vs, o.data ≠ .fields vs) → b ≠ T := fun b o hb hnf q => by
    rw [q, hT] at hb; injection hb with hb; subst hb; exact hnf ts hdT
  unfold setFlight
  refine wpAny_bind (wpAny_field he hd h1 ?_)
  rw [if_pos (show (Value.ref T != Value.none) = true from by simp)]
  refine wpAny_setField hT hdT hsz3 (h _ (fun b o hbo => (other b fun q => by rw [q, hnT] at hbo; cases hbo).trans (hkb b o hbo))
    (hl.of_keeps fun b o hb hnf => ⟨o, (other b (noRecord b o hb hnf)).trans hb, rfl⟩) ?_ (fun b o hb hnf => (other b (noRecord b o hb hnf)).trans hb) (other e (Ne.symm hTe)))
  exact y5_1 oe vs T _ _ (ya9 ((other e (Ne.symm hTe)).trans he) hcls hd h1 hnT hTe (Heap.get?_update_self _ hT (Obj.isFreed_of_fields (Obj.data_mapFields hdT _))) (Obj.data_mapFields hdT _) (by simp [hsz3]))

end
section
variable {w : World} {A₀ : Around} {E : Value → Shared → Prop} {s' : Shared} {base g g₀ G : Heap} {outer : List Env} {L a e : Addr} {m : Str → Option Value} {name : Str} {scope : Scope} {cd : Value}
  {n : Str} {b₀ : Stmt} {suite : List Stmt} {pos np : Pos} {rest : List ExceptHandler} {Q : Flow → Shared → Prop} {news : List (Addr × Obj)} {KF : Frag}
  {p : Program} {loose : List Str} {mean : ExcName → Option Value} {mg mb : Str → Option Value} {x : Str} {X T' : String}
/-- an exception made in this frame and caught in it -/
theorem caught_newS (hxe : Heap.NewExc G s'.heap e X) (F : Fr g L G m) (N : News g L G news) (K : Below A₀ base outer g) (XB : KF.In base) (TB : Top p loose mean mg mb base)
    (D : KtsDicts (outer.filterMap (·.frame)) g) (T0 : KtsTurn (outer.filterMap (·.frame)) g₀ g)
    (ex : nsIn KF mainGlobals x = some none) (hv : bootBuiltins x = some (.type T')) (hn' : x ≠ "__name__")
    (hexc : isSubtype (.type T') (.type "BaseException") = pure true) (hnt : isSubtype (.type ((Manifest.find? T').elim "type" fun y => y.metatype)) (.type "tuple") = pure false) (hsub : isSubtype (.type X) (.type T') = pure true)
    (k : ∀ h' g', KtsTurn (outer.filterMap (·.frame)) g₀ g' → Fr g' L h' m → News g' L h' news → Below A₀ base outer g' → KF.In g' → Top p loose mean mg mb g' → KtsDicts (outer.filterMap (·.frame)) g' → NoCtx h' e → g'.get? e = none →
      wpAny (model prog w) ((A₀.deeper (envOf name scope L a cd)).mark (some (.ref e))) (execs (b₀ :: suite) (envOf name scope L a cd)) Q E { s' with heap := h' })
    (hk : scope.kind = .function := by rfl) (hx : (envOf name scope L a cd).kindOf x = some .globalImplicit := by rfl) (hd : (x == ("__debug__" : Str)) = false := by decide)
    (hE : PassesOwnAt (model prog w) ((A₀.deeper (envOf name scope L a cd)).mark (some (.ref e))) (A₀.deeper (envOf name scope L a cd)) (envOf name scope L a cd) E := by passes_own) :
    wpAny (model prog w) (A₀.deeper (envOf name scope L a cd)) (noteFrame (.ref e) (envOf name scope L a cd))
      (fun _ s₂ => wpAny (model prog w) (A₀.deeper (envOf name scope L a cd)) (setFlight (.ref e) none) (fun _ s₃ =>
        wpAny (model prog w) (A₀.deeper (envOf name scope L a cd)) (handleBy (.ref e) (envOf name scope L a cd) (.ExceptHandler (some (.Name x np)) none (b₀ :: suite) pos :: rest)) Q E s₃) E s₂) E s' := by
  have K' := K.push (name := name) (a := a) (cd := cd) F hk
  have hin : ∀ env ∈ (envOf name scope L a cd :: outer), ∀ b, env.frame = some b → b ∈ (envOf name scope L a cd :: outer).filterMap (·.frame) := fun env he b hb => List.mem_filterMap.mpr ⟨env, he, hb⟩
  have hBG : ∀ b o, G.get? b = some o → b ∉ (envOf name scope L a cd :: outer).filterMap (·.frame) → (hideAll G ((envOf name scope L a cd :: outer).filterMap (·.frame))).get? b = some o := fun b o q nm => hideAll_get _ q nm
  have hl : ∀ q ∈ news, (hideAll G ((envOf name scope L a cd :: outer).filterMap (·.frame))).get? q.1 = some q.2 ∧ g.get? q.1 = none ∧ q.1 ≠ L := fun q hq => by
    refine ⟨hideAll_get _ (N q hq).1 fun hm => ?_, (N q hq).2.2, (N q hq).2.1⟩
    (refine feed (List.mem_filterMap.mp hm) ?_; refine x1_1 ?_; intro env; refine x0_2 ?_; intro he hf)
    rcases List.mem_cons.mp he with rfl | he
    · exact (N q hq).2.1 (Option.some.inj hf).symm
    · (refine feed ((K.frames.mem (List.mem_filterMap.mpr ⟨env, he, hf⟩)).2) ?_; refine x1_1 ?_; intro o; refine x0_2 ?_; intro ho _)
      rw [(N q hq).2.2] at ho; cases ho
  (refine feed (hxe.there) ?_; refine x2_1 ?_; intro ob tp; refine x0_3 ?_; intro he hcls hdt)
  have hen : (hideAll G ((envOf name scope L a cd :: outer).filterMap (·.frame))).get? e = none := by
    cases q : (hideAll G ((envOf name scope L a cd :: outer).filterMap (·.frame))).get? e with
    | none => rfl
    | some o => have := of_hideAll _ q; rw [hxe.new] at this; cases this
  unfold noteFrame
  show wpAny (model prog w) _ (field (.ref e) 1 >>= _) _ _ _
  refine wpAny_bind (wpAny_field (x := Value.none) he hdt rfl ?_)
  rw [if_neg (show ¬ ((Value.none != Value.none) = true) from by decide)]
  refine newEntryX (a0 := tp) K'.stack ((funFrames_hide K'.frames hin).of_keeps fun b o hb _ => ⟨o, hxe.keeps b o hb, rfl⟩) rfl he (fun b o hb => hxe.keeps b o (of_hideAll _ hb)) hen hdt (by simp) rfl fun h₅ hL hX => ?_
  (revert hL; refine x0_4 ?_; intro k1 k2 k3 k4)
  have hheld : Heap.FlyingW (hideAll G ((envOf name scope L a cd :: outer).filterMap (·.frame))) (envOf name scope L a cd :: outer) e (.type X) tp h₅ := ⟨k1, hen, k2, by rw [← hcls]; exact k3⟩
  have hsm₅ : G.UpToSlots h₅ := (Heap.UpToSlots.of_keeps hxe.keeps).trans k4
  (refine feed (kts_ground K F hBG hheld.1 hsm₅) ?_; refine x1_1 ?_; intro g₅; refine x0_3 ?_; intro T₅ F₅ K₅)
  have X₅ : KF.In g₅ := XB.keeps K₅.stays
  have P₅ : TopRead p loose mg mb g₅ := topRead_of (TB.keeps K₅.stays)
  (refine feed (show ∃ ob, h₅.get? e = some ob ∧ ob.cls = .type X from hheld.2.2.2.at.there) ?_; refine x1_1 ?_; intro ob'; refine x0_2 ?_; intro hob hobc)
  refine wpAny_handleBy_builtin (X := X) (T := T') (b := true) hexc hnt hsub (name_B F₅ X₅ P₅ ex hv hn' ⟨rfl, ⟨ob', hob, hobc⟩, ?_⟩ hk hx hd)
  have hn₅ : NoCtx h₅ e := by
    (revert hX; refine x1_1 ?_; intro T hT)
    exact y2_1 _ _ (ya3 hT (Obj.data_mapFields hdt _) (by simp))
  refine setFlightX hheld.1 hheld.2.2.1 hheld.2.2.2.at fun h₆ q1 q2 q3 q4 q5 => ?_
  have hfl₆ : Heap.FlyingW (hideAll G ((envOf name scope L a cd :: outer).filterMap (·.frame))) (envOf name scope L a cd :: outer) e (.type X) tp h₆ := ⟨q1, hen, q2, q3⟩
  have hsm₆ : h₅.UpToSlots h₆ := fun b o hb hn => ⟨o.slots, q4 b o hb hn⟩
  (refine feed (kts_ground K F hBG hfl₆.1 (hsm₅.trans hsm₆)) ?_; refine x1_1 ?_; intro g₆; refine x0_3 ?_; intro T₆ F₆ K₆)
  have Nl : News g₆ L h₆ news := fun q hq => ⟨hfl₆.1 _ _ (hl q hq).1, (hl q hq).2.2, T₆.none_ _ (hl q hq).2.1⟩
  have X₆ : KF.In g₆ := XB.keeps K₆.stays
  have P₆ : Top p loose mean mg mb g₆ := TB.keeps K₆.stays
  have D₆ : KtsDicts (outer.filterMap (·.frame)) g₆ := D.turn T₆
  exact wpAny_passesOwnAt hE (k h₆ g₆ (T0.trans T₆) F₆ Nl K₆ X₆ P₆ D₆ (hn₅.keep fun o ho => q5.trans ho) (T₆.none_ _ (kts_none F.keep hxe.new)))
end
end Catch
section Held
theorem unchain_entry : entryFor table "proto.unchain" = some Builtin.«proto.unchain» := entryFor_of_fast (by kernel_rfl)
theorem unchain_plain : plainId "proto.unchain" = true := by decide +kernel
section
variable {w : World} {A : Around} {E : Value → Shared → Prop} {s : Shared} {κ : Type} [DecidableEq κ] {knd : KeyKind prog w κ}
theorem raiseNew_held {α : Type} {e eh : Addr} {Q : α → Shared → Prop} {oe : Obj} {vs : Array Value} (hA : A.handled = some (.ref eh)) (hn : NoCtx s.heap eh) (he : s.heap.get? e = some oe) (hd : oe.data = .fields vs) (hsz : 2 < vs.size) (hne : eh ≠ e)
    (h : E (.ref e) { s with heap := s.heap.update e (Obj.mapFields (·.setIfInBounds 2 (.ref eh))) }) : wpAny (model prog w) A (raiseNew (α := α) (.ref e)) Q E s := by
  (revert hn; refine x2_1 ?_; intro o ws; refine x0_3 ?_; intro ho hod h2)
  unfold raiseNew
  refine wpAny_bind (wpAny_handled ?_)
  rw [hA]
  show wpAny _ _ (if (Value.ref eh != Value.ref e) = true then _ else _) Q E s
  rw [if_pos (by simpa using hne)]
  refine wpAny_bind (wpAny_holding (wpAny_runValue (codeAny_builtin unchain_entry ?_)))
  rw [Around.under_plainId unchain_plain _]
  show wpAny _ _ (field (.ref eh) 2 >>= _) _ _ _
  refine wpAny_bind (wpAny_field (x := Value.none) ho hod h2 ?_)
  refine wpAny_ite_split (fun _ => ?_) (fun hab => absurd rfl hab)
  refine wpAny_pure ?_
  show wpAny _ _ (setField (.ref e) 2 (.ref eh) >>= _) _ _ _
  exact wpAny_bind (wpAny_setField he hd hsz (wpAny_throw h))
theorem dict_end_held {it d eh : Addr} {i ep : Nat} {kvs : List (κ × Value)} {Q : Option Value → Shared → Prop} (hA : A.handled = some (.ref eh)) (hn : NoCtx s.heap eh) (hie : eh ≠ it) (hit : s.heap.IsKeyIter it d i kvs.length ep)
    (hm : s.heap.DictAt knd d kvs ep) (hx : kvs[i]? = none)
    (hQ : ∀ h', Heap.ExtBut it s.heap h' → Q none { s with heap := h' }) : wpAny (model prog w) A (pyNext (.ref it)) Q E s := by
  (refine feed (id hit) ?_; refine x1_1 ?_; intro o; refine x0_3 ?_; intro ho hc hd)
  (refine feed (id hm) ?_; refine x2_1 ?_; intro od es; refine x0_6 ?_; intro hod hcd hdd hk hp hn')
  unfold pyNext
  refine wpAny_bind (wpAny_attempt (wpAny_callSpecial?_slot (name := Str.ofString "__next__") hit.typeIs PySem.F.slot_dict_keyiterator_next
    (wpAny_call_entry PySem.F.slot_dict_keyiterator_next hit.typeIs PySem.F.entry_dict_keyiterator_next ?_ (PySem.F.args_dict_keyiterator_next_1 _))))
  refine wpAny_bind (wpAny_pure ?_)
  refine wpAny_bind ?_
  refine wpAny_bind ?_
  first | refine wpAny_bind (wpAny_typeNameOfWhole_keyiter hit.typeIs (wpAny_pure ?_)) | refine wpAny_bind (wpAny_typeNameOf_keyiter hit.typeIs (wpAny_pure ?_))
  refine wpAny_bind (wpAny_fieldsOf ho hd ?_)
  have hown : Builtin.Dict_items.ownsTuple "dict_keyiterator" = false := by decide
  rw [hown]
  show wpAny _ _ (if (Value.ref d == Value.none) = true then _ else _) _ _ s
  rw [if_neg (show ¬ ((Value.ref d == Value.none) = true) from Bool.false_ne_true)]
  refine wpAny_bind (wpAny_pure ?_)
  refine wpAny_bind (wpAny_dictEntries hod hdd ?_)
  have hsz : es.size = kvs.length := by rw [← hp.length]; simp
  rw [if_neg (by rw [hsz]; simp)]
  refine wpAny_bind (wpAny_pure ?_)
  refine wpAny_bind (wpAny_dictEpoch hod hdd ?_)
  rw [if_neg (by simp)]
  refine wpAny_pure ?_
  have hge : es.size ≤ i := by rw [hsz]; simpa using hx
  dsimp only
  rw [if_neg (show ¬ ((i : Int) < 0) from by lia), Int.toNat_natCast, Array.getElem?_eq_none hge]
  refine wpAny_bind ?_
  first | refine wpAny_bind (wpAny_typeNameOfWhole_keyiter hit.typeIs (wpAny_pure ?_)) | refine wpAny_bind (wpAny_typeNameOf_keyiter hit.typeIs (wpAny_pure ?_))
  show wpAny _ _ (setField (.ref it) 0 .none >>= _) _ _ s
  refine wpAny_bind (wpAny_setField ho hd (by simp) ?_)
  show wpAny _ _ (newExc (.type "StopIteration") [] >>= _) _ _ _
  refine wpAny_bind ?_
  simp only [newExc, newTuple]
  refine wpAny_bind (wpAny_newObj_type ?_ (by size_fits))
  refine wpAny_bind (m := firstArgMember _ _) (wpAny_of_eq (a := Value.none) (by first | rfl | (simp only [firstArgMember]; rfl)) ?_)
  refine wpAny_newObj_type ?_ (by size_fits)
  have hS := Heap.SameBut.update s.heap it (Obj.mapFields fun x => x.setIfInBounds 0 Value.none)
  refine raiseNew_held (eh := eh) hA ?_ (Heap.get?_push_size _ rfl) rfl (by rw [Array.size_append]; exact Nat.lt_of_lt_of_le (show 2 < 6 by decide) (Nat.le_add_right _ _)) ?_ ?_
  · (revert hn; refine x2_1 ?_; intro oh ws; refine x0_3 ?_; intro hoh hod' h2)
    exact y2_1 oh ws (ya3 (Heap.get?_push_of_some _ (Heap.get?_push_of_some _ ((hS.2 _ hie).trans hoh))) hod' h2)
  · (revert hn; refine x2_1 ?_; intro oh ws; refine x0_3 ?_; intro hoh hod' h2)
    have h3 := Heap.get?_push_of_some { cls := .type "tuple", data := .seq #[] } ((hS.2 _ hie).trans hoh)
    exact Nat.ne_of_lt (Heap.lt_size h3)
  · refine wpAny_bind (wpAny_isInstance (T := "StopIteration") (b := true) ⟨_, Heap.get?_update_self _ (Heap.get?_push_size _ rfl) rfl, rfl⟩ isSubtype_stop ?_)
    refine wpAny_pure (hQ _ fun b ob hb hob => ?_)
    have h3 := (hS.extBut.push { cls := .type "tuple", data := .seq #[] }) b ob hb hob
    rw [Heap.get?_update_other _ _ (Ne.symm (Nat.ne_of_lt (Heap.lt_size h3)))]
    exact Heap.get?_push_of_some _ h3
theorem walksKeysH {eh : Addr} (hA : A.handled = some (.ref eh)) (I d : Addr) (hne : d ≠ I) (hie : eh ≠ I) (kvs : List (κ × Value)) (ep : Nat) :
    Walks prog w A I [I, d, eh] [I] kvs.length (fun i v => ∃ k x, kvs[i]? = some (k, x) ∧ knd.is k v = true) (fun i h => h.IsKeyIter I d i kvs.length ep ∧ h.DictAt knd d kvs ep ∧ NoCtx h eh) where
  sub := fun b hb => by simp at hb; simp [hb]
  frame := fun _ _ _ st hk => ⟨st.1.at fun o e => hk I (by simp) o e, st.2.1.at' fun o e => hk d (by simp) o e, st.2.2.keep fun o e => hk eh (by simp) o e⟩
  item := fun i s Q E hi st hQ => by
    (refine feed (show ∃ p, kvs[i]? = some p from ⟨kvs[i], by simp [hi]⟩) ?_; refine x1_1 ?_; refine xp ?_; intro k x; intro hx)
    refine wpAny_pyNext_dict_item st.1 st.2.1 hx fun key h' hkey hit' hs' => ?_
    exact hQ key h' s.toks ⟨k, x, hx, hkey⟩ ⟨hit', st.2.1.extBut hs'.extBut hne, st.2.2.keep fun o e => (hs'.2 _ hie).trans e⟩ fun b o hb e => hs'.extBut b o (fun h => hb (by simp [h])) e
  done := fun s Q E st hQ => dict_end_held hA st.2.2 hie st.1 st.2.1 (by simp) fun h' he' => hQ h' s.toks fun b o hb e => he' b o (fun h => hb (by simp [h])) e
  self := fun _ _ _ _ st hQ => wpAny_pyIter_keyiter st.1 hQ
theorem extendH {R : Result → Shared → Prop} {d eh S : Addr} {kvs : List (κ × Value)} {ep : Nat} (hA : A.handled = some (.ref eh)) (hn : NoCtx s.heap eh) (lo : (d == sysModules) = false) (hm : s.heap.DictAt knd d kvs ep) (hSe : S ≠ eh) (hSd : S ≠ d) (res : Value) (c₀ : Nat) (hS : s.heap.get? S = some { cls := .type "list", data := .seq #[] c₀ })
    (hR : ∀ h' tk acc' c', (∀ b o, b ≠ S → s.heap.get? b = some o → h'.get? b = some o) → h'.get? S = some { cls := .type "list", dict := none, data := .seq acc' c', slots := #[] } → ItemsOf (fun i v => ∃ k x, kvs[i]? = some (k, x) ∧ knd.is k v = true) acc' kvs.length → R (.ok (.ret res)) { s with heap := h', toks := tk }) (hz : kvs.length ≤ sizeLine) :
    wpAny (model prog w) A.in1 (Builtin.List.listExtendWith (.ref S) (.ref d) res)
      (fun fin s' => match fin with | .done f => R (.ok f) s' | .again c' => c'.quiet = true ∧ codeAny (model prog w) A c' R s') (fun e s' => R (.error e) s') s := by
  have K := kdl_dict (prog := prog) (w := w) (knd := knd) (d := d) (kvs := kvs) (ep := ep) lo
  have hSI : S ≠ s.heap.objs.size := Nat.ne_of_lt (Heap.lt_size hS)
  have hSf : S ∉ [s.heap.objs.size, d, eh] := by simp only [List.mem_cons, List.not_mem_nil, or_false, not_or]; exact ⟨hSI, hSd, hSe⟩
  have W : Walks prog w A.in1 s.heap.objs.size [s.heap.objs.size, d, eh] [s.heap.objs.size] kvs.length _ _ := walksKeysH (knd := knd) (A := A.in1) hA s.heap.objs.size d (Nat.ne_of_lt hm.lt_size) (Nat.ne_of_lt hn.lt) kvs ep
  obtain ⟨oI, hit, st0⟩ : ∃ oI : Obj, (∀ (E : Value → Shared → Prop) (Q : Value → Shared → Prop), Q (.ref s.heap.objs.size) { s with heap := s.heap.push oI } → wpAny (model prog w) A.in1 (pyIter (.ref d)) Q E s) ∧ (s.heap.push oI).IsKeyIter s.heap.objs.size d 0 kvs.length ep := by
    refine y1_1 _ (ya2 (fun E Q h => wpAny_pyIter_dict lo hm h) ?_)
    exact y1_1 _ (ya3 (Heap.get?_push_size _ rfl) rfl rfl)
  have st : (s.heap.push oI).IsKeyIter s.heap.objs.size d 0 kvs.length ep ∧ (s.heap.push oI).DictAt knd d kvs ep ∧ NoCtx (s.heap.push oI) eh := ⟨st0, hm.push _, hn.keep fun o e => Heap.get?_push_of_some _ e⟩
  have key : ∀ (h : Heap) (c₁ tk : Nat), (h.IsKeyIter s.heap.objs.size d 0 kvs.length ep ∧ h.DictAt knd d kvs ep ∧ NoCtx h eh) → (∀ b o, b ≠ S → s.heap.get? b = some o → h.get? b = some o) →
      h.get? S = some { cls := .type "list", data := .seq #[] c₁ } → codeAny (model prog w) A (.builtin "list.extend.loop" ⟨[.ref S, .ref s.heap.objs.size, res], []⟩) R { s with heap := h, toks := tk } := by
    intro h c₁ tk hst hk hS₁
    refine codeAny_extend_loopS W.toS hz S hSf res kvs.length 0 _ #[] c₁ rfl (Nat.zero_le _) hst hS₁ (ItemsOf.nil _) fun s' acc' c' hm hS' hacc => ?_
    rw [Moved.eq_with hm]
    refine hR s'.heap s'.toks acc' c' (fun b o hb e => hm.heap b o (fun hmem => ?_) (hk b o hb e)) hS' hacc
    rcases List.mem_cons.mp hmem with e' | hmem
    · exact hb e'
    · exact absurd (Heap.lt_size e) (by rw [List.mem_singleton.mp hmem]; exact Nat.lt_irrefl _)
  unfold Builtin.List.listExtendWith
  refine wpAny_bind (wpAny_typeOf (T := "dict") (K.type s hm) ?_)
  have h1 : Builtin.List.listSameRef (.ref S) (.ref d) = false := by simp [Builtin.List.listSameRef, hSd]
  simp only [h1, K.notList, K.notTuple, Bool.or_false, Bool.false_eq_true, if_false]
  refine wpAny_bind (hit _ _ ?_)
  have hS₁ := Heap.get?_push_of_some oI hS
  refine wpAny_bind (wpAny_holding (K.hint _ _ _ _ (K.keep _ _ hm fun b _ o e => Heap.get?_push_of_some _ e) ?_))
  refine wpAny_ite_split (fun _ => ?_) (fun _ => wpAny_pure ⟨plainId_quiet PySem.F.plain_extend_loop _, key _ c₀ _ st (fun b o _ e => Heap.get?_push_of_some _ e) hS₁⟩)
  refine wpAny_bind (wpAny_rule ?_)
  refine wpAny_bind ?_
  show wpAny _ _ (updateSeq S (·.push .none) >>= fun _ => updateSeq S (·.pop)) _ _ _
  refine wpAny_bind (wpAny_updateSeq hS₁ rfl ?_)
  have hS₂ := Heap.get?_update_self (Obj.mapSeq (·.push Value.none)) hS₁ rfl
  refine wpAny_updateSeq (hz := by seq_fits) hS₂ rfl ?_
  have hS₃ := Heap.get?_update_self (Obj.mapSeq (·.pop)) hS₂ rfl
  refine wpAny_pure ⟨plainId_quiet PySem.F.plain_extend_loop _, key _ _ _ ?_ (fun b o hb e => ?_) hS₃⟩
  · refine W.frame 0 _ _ st fun b hb o e => ?_
    have hbS : b ≠ S := fun h => hSf (h ▸ hb)
    exact (Heap.get?_update_other _ _ (Ne.symm hbS)).trans ((Heap.get?_update_other _ _ (Ne.symm hbS)).trans e)
  · exact (Heap.get?_update_other _ _ (Ne.symm hb)).trans ((Heap.get?_update_other _ _ (Ne.symm hb)).trans (Heap.get?_push_of_some _ e))
theorem collectH {R : List Value → Shared → Prop} {d eh : Addr} {kvs : List (κ × Value)} {ep : Nat} (hA : A.handled = some (.ref eh)) (hn : NoCtx s.heap eh) (lo : (d == sysModules) = false) (hm : s.heap.DictAt knd d kvs ep) (hz : kvs.length ≤ sizeLine)
    (h : ∀ (h' : Heap) (tk : Nat) (acc : Array Value), (∀ b o, s.heap.get? b = some o → h'.get? b = some o) → ItemsOf (fun i v => ∃ k x, kvs[i]? = some (k, x) ∧ knd.is k v = true) acc kvs.length → R acc.toList { s with heap := h', toks := tk }) :
    wpAny (model prog w) A (collect (.ref d)) R E s := by
  unfold collect
  refine wpAny_bind (wpAny_runValue (codeAny_builtin entry_proto_collect' ?_))
  rw [Around.under_plainId PySem.F.plain_proto_collect _]
  show wpAny _ A.in1 (newList [] >>= fun l => again (.builtin "list.__iadd__" ⟨[l, .ref d], []⟩)) _ _ s
  refine wpAny_bind (wpAny_newObj_type ?_)
  refine wpAny_pure ⟨plainId_quiet PySem.F.plain_list_iadd _, codeAny_builtin entry_list_iadd' ?_⟩
  rw [Around.under_plainId PySem.F.plain_list_iadd _]
  have hS₁ : (s.heap.push { cls := .type "list", data := .seq ([] : List Value).toArray }).get? s.heap.objs.size = some { cls := .type "list", data := .seq #[] } := Heap.get?_push_size _ rfl
  show wpAny _ A.in1 (Builtin.List.listExtendWith (.ref s.heap.objs.size) (.ref d) (.ref s.heap.objs.size)) _ _ _
  have key := extendH (A := A) (knd := knd) (kvs := kvs) (ep := ep) (s := { s with heap := s.heap.push { cls := .type "list", data := .seq ([] : List Value).toArray } })
    (R := fun (q : Result) (s' : Shared) => ∃ (h' : Heap) (tk : Nat) (acc' : Array Value) (c' : Nat), q = .ok (.ret (.ref s.heap.objs.size)) ∧ s' = { s with heap := h', toks := tk } ∧
      (∀ b o, s.heap.get? b = some o → h'.get? b = some o) ∧ h'.get? s.heap.objs.size = some { cls := .type "list", dict := none, data := .seq acc' c', slots := #[] } ∧ ItemsOf (fun i v => ∃ k x, kvs[i]? = some (k, x) ∧ knd.is k v = true) acc' kvs.length)
    hA (hn.keep fun o e => Heap.get?_push_of_some _ e) lo (hm.push _) (Nat.ne_of_gt hn.lt) (Nat.ne_of_gt hm.lt_size) (.ref s.heap.objs.size) 0 hS₁
    (fun h' tk acc' c' hk hS' hacc => ⟨h', tk, acc', c', rfl, rfl, fun b o e => hk b o (Nat.ne_of_lt (Heap.lt_size e)) (Heap.get?_push_of_some _ e), hS', hacc⟩) hz
  refine wpAny_mono key (fun fin s' x => ?_) fun e s' x => ?_
  · cases fin with
    | done f =>
      (revert x; refine x4_1 ?_; intro h' tk acc' c'; refine x0_5 ?_; intro e; intro zz9; subst zz9; intro hk hS' hacc)
      cases e
      show wpAny _ A (load s.heap.objs.size >>= _) _ _ _
      refine wpAny_bind (wpAny_load hS' ?_)
      exact wpAny_pure (h h' tk acc' hk hacc)
    | again c₁ =>
      refine ⟨x.1, codeAny_mono x.2 fun q s₂ y => ?_⟩
      (revert y; refine x4_1 ?_; intro h' tk acc' c'; refine x0_5 ?_; intro zz9; subst zz9; intro zz9; subst zz9; intro hk hS' hacc)
      show wpAny _ A (load s.heap.objs.size >>= _) _ _ _
      refine wpAny_bind (wpAny_load hS' ?_)
      exact wpAny_pure (h h' tk acc' hk hacc)
  · (revert x; refine x4_1 ?_; intro _ _ _ _; refine x0_2 ?_; intro e' _)
    cases e'
end
section
variable {w : World} {A : Around} {E : Value → Shared → Prop} {s : Shared} {h₀ : Heap} {L D : Addr} {m : Str → Option Value} {nw : Led}
theorem sorted_keys_H {d eh : Addr} {o : Obj} {kvs : List (Str × Value)} {Q : Value → Shared → Prop} (hA : A.handled = some (.ref eh)) (hn : NoCtx s.heap eh) (F : Fr h₀ L s.heap m) (N : News h₀ L s.heap nw) (hp : (d, o) ∈ nw) (hd : o.IsDictOf (PySem.strKind prog w) kvs) (lo : (d == sysModules) = false) (h64 : kvs.length < 64)
    (h : ∀ B c h' tk vs ss, Fr h₀ L h' m → News h₀ L h' ((B, listOf (List.toArray vs) c) :: nw) → AllLt B nw → StrsAre vs ss → ss.Perm (kvs.map (·.1)) → ss.Pairwise (fun a b => ¬ b.cps.toList < a.cps.toList) → Q (.ref B) ⟨h', s.gens, s.drawn, tk, s.os⟩) :
    wpAny (model prog w) A (call (.builtin "sorted") [.ref d]) Q E s := by
  (refine feed (KdkAt.of hd) ?_; refine x1_1 ?_; intro ep hat)
  refine call_function_entry kind_sorted plain_sorted entry_sorted (args_sorted1 _) ?_
  unfold Builtin.«sorted»
  refine wpAny_bind (m := checkCount "sorted" 1 1 _) (wpAny_pure ?_)
  refine wpAny_bind (collectH (A := A.in1) (knd := PySem.strKind prog w) (kvs := kvs) (ep := ep) hA hn lo (hat.dictAt (N _ hp).1) (by rw [sizeLine_eq]; lia) fun h' tk acc hk hacc => ?_)
  have hl : acc.toList.length = kvs.length := by rw [Array.length_toList]; exact hacc.1
  refine wpAny_bind (wpAny_newList ?_ (by rw [hl, sizeLine_eq]; lia))
  have F' := F.keeps hk
  have N' : News h₀ L h' nw := fun q hq => ⟨hk _ _ (N q hq).1, (N q hq).2⟩
  have hS := strsAre_of (w := w) acc.toList kvs hl (fun j v e => hacc.2 j v (by rw [← Array.getElem?_toList]; exact e))
  refine wpAny_bind (wpAny_holding ?_)
  refine wpAny_mono (lsort_strs (s := ⟨h'.push { cls := .type "list", data := .seq acc.toList.toArray }, s.gens, s.drawn, tk, s.os⟩) (A := A.in1) (E := E) (Q := fun _ s' => Q (.ref h'.objs.size) s') (F'.push _) (News.push F' N' _ rfl) (fun p hp => Nat.ne_of_lt (Heap.lt_size (N' p hp).1)) hS (by lia) fun vs' ss' c h'' F'' N'' a1 a2 a3 => ?_) (fun _ s' x => ?_) fun _ _ e => e
  · exact h _ c h'' tk vs' ss' F'' N'' (allLt_of fun p hp => Heap.lt_size (N' p hp).1) a1 a2 a3
  · exact wpAny_pure ⟨_, rfl, x⟩
end
end Held
section Deep
/-- what a caller must show to a call of a def that catches -/
structure CxS (w : World) (A A₀ : Around) (base : Heap) (outer : List Env) (h₀ : Heap) (L : Addr) (d : Nat) : Prop where
  XB : (K w.params).In base
  TB : ∃ lo mean mg mb, Top topProg lo mean mg mb base
  B : Below A₀ base outer h₀
  D : KtsDicts (outer.filterMap (·.frame)) h₀
  fr : ∃ cn cs a ccd, A.frames = some (envOf cn cs L a ccd :: outer) ∧ cs.kind = .function
  depth : A.depth + d ≤ 360
  units : A.units + 6 * d ≤ 400
theorem CxS.el {w : World} {A A₀ : Around} {base : Heap} {outer : List Env} {h₀ : Heap} {L : Addr} {d : Nat} {g : Prop} (k : ∀ (_ : (K w.params).In base) lo mean mg mb (_ : Top topProg lo mean mg mb base) (_ : Below A₀ base outer h₀) (_ : KtsDicts (outer.filterMap (·.frame)) h₀) cn cs a ccd (_ : A.frames = some (envOf cn cs L a ccd :: outer)) (_ : cs.kind = .function) (_ : A.depth + d ≤ 360) (_ : A.units + 6 * d ≤ 400), g) (C : CxS w A A₀ base outer h₀ L d) : g :=
  let ⟨XB, ⟨lo, mean, mg, mb, TB⟩, B, D, ⟨cn, cs, a, ccd, hA, hk⟩, hd, hu⟩ := C
  k XB lo mean mg mb TB B D cn cs a ccd hA hk hd hu
/-- the ground has turned -/
structure TurnS (A₀ : Around) (base : Heap) (outer : List Env) (h₀ h₀' : Heap) : Prop where
  T : KtsTurn (outer.filterMap (·.frame)) h₀ h₀'
  B : Below A₀ base outer h₀'
  D : KtsDicts (outer.filterMap (·.frame)) h₀'
theorem TurnS.el {A₀ : Around} {base : Heap} {outer : List Env} {h₀ h₀' : Heap} {g : Prop} (k : KtsTurn (outer.filterMap (·.frame)) h₀ h₀' → Below A₀ base outer h₀' → KtsDicts (outer.filterMap (·.frame)) h₀' → g) (C : TurnS A₀ base outer h₀ h₀') : g := k C.1 C.2 C.3
theorem TurnS.trans {A₀ : Around} {base : Heap} {outer : List Env} {h₀ h₁ h₂ : Heap} (x : TurnS A₀ base outer h₀ h₁) (y : TurnS A₀ base outer h₁ h₂) : TurnS A₀ base outer h₀ h₂ := ⟨x.T.trans y.T, y.B, y.D⟩
section
variable {w : World} {A : Around} {E : Value → Shared → Prop} {s : Shared} {h₀ : Heap} {L d : Addr} {m : Str → Option Value} {nw : Led} {κ : Type} [DecidableEq κ] {knd : KeyKind prog w κ} {o : Obj} {kvs : List (κ × Value)} {k : κ} {key v dflt : Value}
theorem item_missing_M {value slice : Expr} {Q : Value → Shared → Prop} (N : News h₀ L s.heap nw) (hp : (d, o) ∈ nw) (hd : o.IsDictOf knd kvs) (lo : (d == sysModules) = false) (hkey : knd.is k key = true) (hh : A.handled = none) (hv : valueAt kvs k = none)
    (h : ∀ h' e, Heap.NewExc s.heap h' e "KeyError" → E (.ref e) { s with heap := h', toks := s.toks + 1 })
    (hs : subscripted slice false (.ref d) key = operate [.ref d, key] (getItem (.ref d) key) := by with_unfolding_all rfl) : wpAny (model prog w) A (subscriptTail value slice (.ref d) key) Q E s :=
  have hD := kda_dict N hp hd
  tail_any hD.typeIs slot_dict_getitem.lookup (wpAny_getItem_missing_of hkey lo hh hD.mapOf hv h) hs
theorem item_M {value slice : Expr} {Q : Value → Shared → Prop} (N : News h₀ L s.heap nw) (hp : (d, o) ∈ nw) (hd : o.IsDictOf knd kvs) (hkey : knd.is k key = true) (hv : valueAt kvs k = some v) (h : Q v { s with toks := s.toks + 1 })
    (hs : subscripted slice false (.ref d) key = operate [.ref d, key] (getItem (.ref d) key) := by with_unfolding_all rfl) : wpAny (model prog w) A (subscriptTail value slice (.ref d) key) Q E s :=
  have hD := kda_dict N hp hd
  tail_any hD.typeIs slot_dict_getitem.lookup (wpAny_getItem_of hkey hD.mapOf hv h) hs
theorem sub_list_M {vs : List Value} {c : Nat} {p : Nat} {t : Tok} {value slice : Expr} {Q : Value → Shared → Prop} (N : News h₀ L s.heap nw) (hp : (d, listOf vs.toArray c) ∈ nw) (hl : (p : Int) < (vs.length : Int)) (hz : vs.length < 1000)
    (h : Q (vs.getD p .none) s) (hs : subscripted slice false (.ref d) (.int p t) = operate [.ref d, .int p t] (getItem (.ref d) (.int p t)) := by with_unfolding_all rfl) : wpAny (model prog w) A (subscriptTail value slice (.ref d) (.int p t)) Q E s := by
  have hl' := News.isList N hp
  have hp' : p < vs.length := by lia
  exact tail_any hl'.typeIs PySem.slot_list_getitem.lookup (wpAny_getItem_list hl' (by lia) (by lia) (x := vs.getD p .none) (by simp [hp']) h) hs
theorem len_list_M {vs : List Value} {c : Nat} {Q : Value → Shared → Prop} (N : News h₀ L s.heap nw) (hp : (d, listOf vs.toArray c) ∈ nw) (hz : vs.length < 1000)
    (h : ∀ t tk, Q (.int vs.length t) { s with toks := tk }) : wpAny (model prog w) A (call (.builtin "len") [.ref d]) Q E s :=
  call_len_list (News.isList N hp) (by simp only [List.size_toArray]; lia) (by simpa using h _ _)
end
end Deep
section Gen0
/-- what a caller of any make (with cells of its own too) must show to a call of a def that catches -/
structure CxG (w : World) (A A₀ : Around) (base : Heap) (outer : List Env) (h₀ : Heap) (L : Addr) (d : Nat) : Prop where
  XB : (K w.params).In base
  TB : ∃ lo mean mg mb, Top topProg lo mean mg mb base
  B : Below A₀ base outer h₀
  D : KtsDicts (outer.filterMap (·.frame)) h₀
  fr : ∃ env, A.frames = some (env :: outer) ∧ env.frame = some L ∧ env.scope.kind = .function
  depth : A.depth + d ≤ 360
  units : A.units + 6 * d ≤ 400
theorem CxG.el {w : World} {A A₀ : Around} {base : Heap} {outer : List Env} {h₀ : Heap} {L : Addr} {d : Nat} {g : Prop} (k : ∀ (_ : (K w.params).In base) lo mean mg mb (_ : Top topProg lo mean mg mb base) (_ : Below A₀ base outer h₀) (_ : KtsDicts (outer.filterMap (·.frame)) h₀) env (_ : A.frames = some (env :: outer)) (_ : env.frame = some L) (_ : env.scope.kind = .function) (_ : A.depth + d ≤ 360) (_ : A.units + 6 * d ≤ 400), g) (C : CxG w A A₀ base outer h₀ L d) : g :=
  let ⟨XB, ⟨lo, mean, mg, mb, TB⟩, B, D, ⟨env, hA, hf, hk⟩, hd, hu⟩ := C
  k XB lo mean mg mb TB B D env hA hf hk hd hu
theorem frame_mem {env : Env} {L b : Addr} {outer : List Env} (hf : env.frame = some L) (hm : b ∈ (env :: outer).filterMap (·.frame)) : b = L ∨ b ∈ outer.filterMap (·.frame) := by
  (refine feed (List.mem_filterMap.mp hm) ?_; refine x1_1 ?_; intro e; refine x0_2 ?_; intro he h)
  rcases List.mem_cons.mp he with rfl | he
  · exact .inl (Option.some.inj (h.symm.trans hf))
  · exact .inr (List.mem_filterMap.mpr ⟨e, he, h⟩)
section
variable {w : World} {A₀ A : Around} {s : Shared} {base h₀ g₀ : Heap} {outer : List Env} {L : Addr} {m : Str → Option Value} {env : Env} {nw : Led} {KF : Frag} {p : Program} {loose : List Str} {mean : ExcName → Option Value} {mg mb : Str → Option Value}
    {R : Result → Shared → Prop} {name qual : Str} {params : Arguments} {body : List Stmt} {scope : Scope} {dV kV doc pm cdv ct oc : Value} {an od : Option Addr} {osl : Array (Option Value)} {f : Addr} {args : Args} {binds : List (Str × Value)}
theorem enterG (B : Below A₀ base outer h₀) (F : Fr h₀ L s.heap m) (N : News h₀ L s.heap nw) (hA : A.frames = some (env :: outer)) (hf : env.frame = some L) (hk : env.scope.kind = .function) :
    ∃ oL es ep, (hideAll s.heap (nw.map (·.1))).get? L = some oL ∧ oL.data = .dict es ep ∧ (∀ (sl : Array (Option Value)) h', h'.get? L = some { oL with slots := sl } → Heap.Ns h' L m) ∧
      h₀.StaysIn (hideAll s.heap (nw.map (·.1))) ∧ Below A base (env :: outer) (hideAll s.heap (nw.map (·.1))) := by
  (refine feed (groundX (R := fun _ _ => True) B F N hA hf hk) ?_; refine x0_4 ?_; intro FG BG st _)
  (refine feed (FG.ns) ?_; refine x3_1 ?_; intro oL es ep; refine x0_4 ?_; intro hL hLd hLk hLf)
  exact y3_1 oL es ep (ya5 hL hLd (fun sl h' e => ⟨_, es, ep, e, hLd, hLk, hLf⟩) st BG)
theorem code_defG (B : Below A₀ base outer h₀) (F : Fr h₀ L s.heap m) (X₀ : KF.In h₀) (N : News h₀ L s.heap nw) (T : Top p loose mean mg mb h₀) (XB : KF.In base) (TB : Top p loose mean mg mb base) (D : KtsDicts (outer.filterMap (·.frame)) h₀)
    (T0 : KtsTurn (outer.filterMap (·.frame)) g₀ h₀) (hA : A.frames = some (env :: outer)) (hf : env.frame = some L) (hck : env.scope.kind = .function)
    (ho : KF.lookup f = some ⟨oc, od, .func (fnOf name qual params body scope dV kV doc pm an cdv ct), osl⟩) (hcd : codeIn KF cdv qual = true) (hroom : A.depth < recursionLimit)
    (hbind : BindsTo s (fnOf name qual params body scope dV kV doc pm an cdv ct) args binds) (hloc : ∀ y ∈ binds, scope.names.lookup y.1 = some .local)
    (h : ∀ g L' h₁, Fr h₀ L g m → Fr g L' h₁ (fun y => binds.reverse.lookup y) → News g L' h₁ nw → Below A base (env :: outer) g → KF.In g → Top p loose mean mg mb g → KtsDicts ((env :: outer).filterMap (·.frame)) g →
      wpAny (model prog w) (A.deeper (envOf qual scope L' f cdv)) (execs body (envOf qual scope L' f cdv))
        (fun fl s' => LeaveS ((env :: outer).filterMap (·.frame)) A₀ base outer KF p loose mean mg mb g₀ h₀ L m g R (match fl with | .ret v => v | _ => .none) s')
        (fun e s' => wpAny (model prog w) (A.deeper (envOf qual scope L' f cdv)) (leaving (envOf qual scope L' f cdv) e) (fun _ s'' => R (.error e) s'') (fun e' s'' => R (.error e') s'') s')
        { s with heap := h₁, toks := s.toks + binds.length })
    (hco : scope.isCoroutine = false) (hgen : scope.isGenerator = false) (hk : scope.kind = .function)
    (hcell : ∀ x ∈ scope.names, x.2 ≠ .cell) : codeAny (model prog w) A (.call (.ref f) args) R s := by
  have X := X₀.keeps F.keep
  refine codeAny_call_def (fd := fnOf name qual params body scope dV kV doc pm an cdv ct) (body := body) (binds := binds) hroom (X _ _ ho) rfl (T.nolimit.keeps F.keep) (codeRec_of X hcd) rfl hbind hcell hloc (fun h₁ hns hk₁ => ?_) hco hgen hk
  (refine feed (enterG B F N hA hf hck) ?_; refine x3_1 ?_; intro oL es ep; refine x0_5 ?_; intro hLg hLd hN st B₂)
  refine wpAny_mono (h _ s.heap.objs.size h₁ ⟨hN oL.slots _ hLg, st, F.above⟩ ⟨hns, fun b o e => hk₁ b o (of_hideAll _ e), Nat.le_of_eq (hideAll_size _ _)⟩
    (fun p hp => ⟨hk₁ _ _ (N p hp).1, Nat.ne_of_lt (Heap.lt_size (N p hp).1), hideAll_none _ (List.mem_map_of_mem hp)⟩) B₂ (X₀.keeps st) (T.keeps st) (fun b hb => by
      rcases frame_mem hf hb with rfl | hb
      · exact y3_1 oL es ep (ya2 hLg hLd)
      · (refine feed (D b hb) ?_; refine x3_1 ?_; intro o es' n'; refine x0_2 ?_; intro ho' hd')
        exact y3_1 o es' n' (ya2 (st b o ho') hd'))) (fun fl s' hl => ?_) fun _ _ y => y
  have nL₀ : h₀.get? L = none := kts_self F
  rcases hl with ⟨L', m', news', F', N', k⟩ | ⟨g', L', m', news', T', F', N', k⟩
  · refine k ⟨hN oL.slots _ (F'.keep _ _ hLg), fun b o e => F'.keep b o (st b o e), F.above⟩ fun p hp => ⟨(N' p hp).1, fun q => ?_, ?_⟩
    · have := (N' p hp).2.2; rw [q, hLg] at this; cases this
    · cases q : h₀.get? p.1 with
      | none => rfl
      | some o => have := (N' p hp).2.2; rw [st _ _ q] at this; cases this
  (refine feed (T'.up hLg) ?_; refine x1_1 ?_; intro sl hs)
  obtain ⟨T₁, S₁⟩ := kts_turn_at (h := s'.heap) (fs := outer.filterMap (·.frame)) (g := h₀)
    (fun b hb => by
      obtain ⟨_, o, ho', _⟩ := B.frames.mem hb
      exact y1_1 o ho')
    (fun b o e nmem => F'.keep b o (T'.other b o (st b o e) (fun q => by
      rcases frame_mem hf q with z | z
      · rw [z, nL₀] at e
        cases e
      · exact nmem z)))
    (fun b o e hm => by
      (refine feed (T'.up (st b o e)) ?_; refine x1_1 ?_; intro sl' hs')
      exact y1_1 sl' (F'.keep _ _ hs'))
  have B₃ : Below A₀ base outer (ktsHeap s'.heap (outer.filterMap (·.frame)) h₀) := ⟨B.stack, fun b o e => T₁.other b o (B.stays b o e) (fun hm => by
    rw [(B.frames.mem hm).1] at e
    cases e), B.frames.of_keeps fun b o e _ => by
    (refine feed (T₁.up e) ?_; refine x1_1 ?_; intro sl' hs')
    exact y1_1 _ (ya2 hs' rfl)⟩
  refine k _ (T0.trans T₁) ⟨hN sl _ (F'.keep _ _ hs), S₁, by rw [T₁.size]; exact F.above⟩ (fun p hp => ⟨(N' p hp).1, fun q => ?_, ?_⟩) B₃ (XB.keeps B₃.stays) (TB.keeps B₃.stays) (D.turn T₁)
  · have := (N' p hp).2.2; rw [q, hs] at this; cases this
  · refine T₁.none_ _ ?_
    cases q : h₀.get? p.1 with
    | none => rfl
    | some o =>
      (refine feed (T'.up (st _ _ q)) ?_; refine x1_1 ?_; intro sl' hs')
      have := (N' p hp).2.2
      rw [hs'] at this
      cases this
end
end Gen0
example : True := by
  (k_with "base:noteFrame ref" => k_here; (rename Heap.NewExc _ _ _ _ => xnew); k_dflt (refine' caught_newS (T' := "KeyError") (X := "KeyError") (by assumption) (by assumption) (by assumption) (by assumption) (by assumption) (by assumption) (by assumption) (by first | assumption | exact KtsTurn.refl) (by k_is) PyProof.Rows.Boot.«KeyError» (by decide) kr_isExc_KeyError kr_notTuple_KeyError (by (rw [isSubtype_type]; kernel_rfl)) ?_); clear xnew; intro _ _ _ _ _ _ _ _ _ _ _)
  (k_with "base:m_cxs" => refine' CxS.of (by k_asm) (by k_asm) (by k_asm) (by k_asm) (by walk_at "m_frames") (by first | assumption | rfl) (by ((try simp only [depth_under_make, depth_under_kw, depth_in1, depth_deeper, depth_caller]); lia)) (by ((try simp only [units_under_make, Around.in1_units, Around.deeper_units, Around.mark_units]); lia)))
  trivial
section EdgeF
local macro_rules | `(tactic| walk_at $s:str) => do
  let k := Lean.Syntax.mkStrLit ("EdgeF:" ++ s.getString)
  `(tactic| k_extra $k)
example : True := by
  (k_with "EdgeF:call builtin:dict.get" => k_here; (with_reducible show wpAny _ _ (call (Value.builtin "dict.get") [Value.ref _, Value.int _ _, _]) _ _ _); k_dflt (refine' get2_M (knd := intKind prog _) (by k_asm) (by k_mem) (by with_reducible assumption) (by with_reducible assumption) (intKind_is _ _ _ _) ?_))
  (k_with "EdgeF:compareOp In str ref" => k_here; (with_reducible show wpAny _ _ (compareOp CmpOp.In (Value.str _ _) (Value.ref _)) _ _ _); k_dflt (refine' in_M (knd := PySem.strKind prog _) (by k_asm) (by k_mem) (by with_reducible assumption) (by with_reducible assumption) (strKind_is _ _ _ _) ?_))
  (k_with "EdgeF:compareOp In int ref" => k_here; (with_reducible show wpAny _ _ (compareOp CmpOp.In (Value.int _ _) (Value.ref _)) _ _ _); k_dflt (refine' in_M (knd := intKind prog _) (by k_asm) (by k_mem) (by with_reducible assumption) (by with_reducible assumption) (intKind_is _ _ _ _) ?_))
  trivial
theorem transget_M {w : World} {A : Around} {E : Value → Shared → Prop} {s : Shared} {h₀ : Heap} {L tr d : Addr} {nw nw' : Led} {ot od : Obj} {kvs : List (Int × Value)} {q : Int} {t : Tok} {kv : List (Str × Value)} {Q : Value → Shared → Prop} (N : News h₀ L s.heap nw') (hp : (tr, ot) ∈ nw') (hd : ot.IsDictOf (intKind prog w) kvs) (lo : (tr == sysModules) = false)
    (hin : TransAt (w := w) nw kvs q kv) (hs : ∀ p ∈ nw, p ∈ nw') (hm : (d, od) ∈ nw') (hi : od.IsDictOf (PySem.strKind prog w) []) (lo2 : (d == sysModules) = false)
    (h : ∀ a o', (a, o') ∈ nw' → o'.IsDictOf (PySem.strKind prog w) kv → (a == sysModules) = false → Q (.ref a) { s with toks := s.toks + 1 }) :
    wpAny (model prog w) A (call (.builtin "dict.get") [.ref tr, .int q t, .ref d]) Q E s := by
  (refine feed (trans_get hin hs hm hi lo2) ?_; refine x2_1 ?_; intro a o'; refine x0_4 ?_; intro e h1 h2 h3)
  exact get2_M N hp hd lo (intKind_is _ _ _ _) (by rw [e]; exact h a o' h1 h2 h3)
example : True := by
  (k_with "EdgeF:call builtin:dict.get" => k_here; (with_reducible show wpAny _ _ (call (Value.builtin "dict.get") [Value.ref _, Value.int _ _, Value.ref _]) _ _ _); k_dflt (refine' transget_M (by k_asm) (by k_mem) (by with_reducible assumption) (by with_reducible assumption) (by with_reducible assumption) (fun p hp => List.Mem.tail _ hp) (.head _) (by with_reducible assumption) (by with_reducible assumption) ?_); intro _ _ _ _ _)
  (k_with "EdgeF:subscriptTail" => k_here; (with_reducible show wpAny _ _ (subscriptTail _ _ (Value.ref _) (Value.int _ _)) _ _ _); k_dflt (refine' item_M (knd := intKind prog _) (by k_asm) (by k_mem) (by with_reducible assumption) (intKind_is _ _ _ _) (by with_reducible assumption) ?_))
  (k_with "EdgeF:subscriptTail" => k_here; (with_reducible show wpAny _ _ (subscriptTail _ _ (Value.ref _) (Value.int _ _)) _ _ _); k_dflt (refine' item_missing_M (knd := intKind prog _) (by k_asm) (by k_mem) (by with_reducible assumption) (by with_reducible assumption) (intKind_is _ _ _ _) (by walk_at "m_hh") (by with_reducible assumption) ?_); intro _ _ _)
  (k_with "EdgeF:subscriptTail" => k_here; (with_reducible show wpAny _ _ (subscriptTail _ _ (Value.ref _) (Value.int (Nat.cast _) _)) _ _ _); k_dflt (refine' sub_list_M (by k_asm) (by k_mem) (by with_reducible assumption) (by with_reducible assumption) ?_))
  (k_with "EdgeF:call builtin:len" => k_here; (with_reducible show wpAny _ _ (call (Value.builtin "len") [Value.ref _]) _ _ _); k_dflt (refine' len_list_M (by k_asm) (by k_mem) (by with_reducible assumption) ?_); intro _ _)
  (k_with "EdgeF:call builtin:_bisect.bisect_left" => k_here; k_dflt (refine' bisect_M (News.isList (by k_asm) (by k_mem)) (by with_reducible assumption) (by with_reducible assumption) (by with_reducible assumption) ?_); intro _ _ _ _ _ _)
  trivial
theorem in_nil {w : World} {A : Around} {E : Value → Shared → Prop} {s : Shared} {h₀ : Heap} {L d : Addr} {nw : Led} {o : Obj} {q : Int} {t : Tok} {Q : Value → Shared → Prop} (N : News h₀ L s.heap nw) (hp : (d, o) ∈ nw) (hd : o.IsDictOf (intKind prog w) []) (lo : (d == sysModules) = false)
    (h : Q (.bool false) { s with toks := s.toks + 1 }) : wpAny (model prog w) A (compareOp .In (.int q t) (.ref d)) Q E s := in_M N hp hd lo (intKind_is _ _ _ _) h
example : True := by
  (k_with "EdgeF:compareOp In int ref" => k_here; (with_reducible show wpAny _ _ (compareOp CmpOp.In (Value.int _ _) (Value.ref _)) _ _ _); k_dflt (refine' in_nil (by k_asm) (by k_mem) (by with_reducible assumption) (by with_reducible assumption) ?_))
  trivial
/-- the least label of an arc that is not below the candidate -/
noncomputable def NextEdge (kv : List (Str × Value)) (cd : List Nat) (v : Value) : Prop :=
  (∃ k t, v = .str k t ∧ k ∈ kv.map (·.1) ∧ ¬ k.cps.toList < cd ∧ ∀ k' ∈ kv.map (·.1), ¬ k'.cps.toList < cd → ¬ k'.cps.toList < k.cps.toList) ∨ (v = .none ∧ ∀ k' ∈ kv.map (·.1), k'.cps.toList < cd)
noncomputable def SortedKeys (vs : List Value) (ss : List Str) (kv : List (Str × Value)) : Prop := StrsAre vs ss ∧ ss.Perm (kv.map (·.1)) ∧ ss.Pairwise (fun a b => ¬ b.cps.toList < a.cps.toList)
noncomputable def OutStep (nw l : Led) (kvo kvo' : List (Int × Value)) (q : Int) (kv : List (Str × Value)) : Prop :=
  kvo' = kvo ∨ (valueAt kvo q = none ∧ ∃ B vs ss c, kvo' = stored kvo q (.ref B) ∧ (B, listOf (List.toArray vs) c) ∈ l ∧ SortedKeys vs ss kv ∧ Fresh nw B)
theorem next_direct {kv : List (Str × Value)} {x : Str} {t : Tok} (h : (valueAt kv x).isSome = true) : NextEdge kv x.cps.toList (.str x t) := by
  refine .inl ⟨x, t, rfl, ?_, List.lt_irrefl _, fun k' _ h => h⟩
  unfold valueAt at h
  rw [Option.isSome_map] at h
  (refine feed (Option.isSome_iff_exists.mp h) ?_; refine x1_1 ?_; intro p hp)
  have h1 := List.find?_some hp
  have h2 := List.mem_of_find?_eq_some hp
  exact List.mem_map.mpr ⟨p, h2, of_decide_eq_true h1⟩
theorem next_pos {kv : List (Str × Value)} {x : Str} {vs : List Value} {ss : List Str} {pos : Nat} (hS : StrsAre vs ss) (hp : ss.Perm (kv.map (·.1))) (hs : ss.Pairwise (fun a b => ¬ b.cps.toList < a.cps.toList))
    (b2 : ∀ i y, i < pos → ss[i]? = some y → y.cps.toList < x.cps.toList) (b3 : ∀ i y, pos ≤ i → ss[i]? = some y → ¬ y.cps.toList < x.cps.toList) (hlt : (pos : Int) < (vs.length : Int)) : NextEdge kv x.cps.toList (vs.getD pos .none) := by
  have hlen := hS.length
  have hl : pos < vs.length := by lia
  (refine feed (hS.all vs[pos] (List.getElem_mem hl)) ?_; refine x2_1 ?_; intro k t hk)
  have hg : vs.getD pos .none = .str k t := by simp [hl, hk]
  have hsk : ss[pos]? = some k := by
    rw [← hS.strs, List.getElem?_map, List.getElem?_eq_getElem hl, hk]; rfl
  refine .inl ⟨k, t, hg, hp.mem_iff.mp (List.mem_of_getElem? hsk), b3 pos k (Nat.le_refl _) hsk, fun k' hk' hn => ?_⟩
  (refine feed (List.mem_iff_getElem?.mp (hp.mem_iff.mpr hk')) ?_; refine x1_1 ?_; intro j hj)
  rcases Nat.lt_or_ge j pos with h1 | h1
  · exact absurd (b2 j k' h1 hj) hn
  · rcases Nat.lt_or_ge pos j with h2 | h2
    · have g1 := List.getElem?_eq_some_iff.mp hsk
      have g2 := List.getElem?_eq_some_iff.mp hj
      have := List.pairwise_iff_getElem.mp hs pos j g1.1 g2.1 h2
      rw [g1.2, g2.2] at this
      exact this
    · have : j = pos := by lia
      subst this
      rw [hsk] at hj
      cases hj
      exact List.lt_irrefl _
theorem next_none {kv : List (Str × Value)} {x : Str} {vs : List Value} {ss : List Str} {pos : Nat} (hS : StrsAre vs ss) (hp : ss.Perm (kv.map (·.1)))
    (b2 : ∀ i y, i < pos → ss[i]? = some y → y.cps.toList < x.cps.toList) (hlt : ¬ (pos : Int) < (vs.length : Int)) : NextEdge kv x.cps.toList .none := by
  have hlen := hS.length
  refine .inr ⟨rfl, fun k' hk' => ?_⟩
  (refine feed (List.mem_iff_getElem?.mp (hp.mem_iff.mpr hk')) ?_; refine x1_1 ?_; intro j hj)
  have := (List.getElem?_eq_some_iff.mp hj).1
  exact b2 j k' (by lia) hj
theorem keys_len {vs : List Value} {ss : List Str} {kv : List (Str × Value)} (h : StrsAre vs ss) (hp : ss.Perm (kv.map (·.1))) (h64 : kv.length < 64) : vs.length < 1000 := by
  have h1 := h.length
  have h2 := hp.length_eq
  rw [List.length_map] at h2
  lia
example : True := by
  (k_with "EdgeF:call builtin:sorted" => k_here; (with_reducible show wpAny _ _ (call (Value.builtin "sorted") [Value.ref _]) _ _ _); k_dflt (refine' sorted_keys_H rfl (by with_reducible assumption) (by k_asm) (by k_asm) (by k_mem) (by with_reducible assumption) (by with_reducible assumption) (by with_reducible assumption) ?_); intro B'zz c'zz h'zz tk'zz vs'zz ss'zz F'zz N'zz l1'zz hS'zz hp'zz hs'zz; (have hz'zz := keys_len hS'zz hp'zz (by with_reducible assumption)); dsimp only; (revert B'zz c'zz h'zz tk'zz vs'zz ss'zz F'zz N'zz l1'zz hS'zz hp'zz hs'zz hz'zz; intro _ _ _ _ _ _ _ _ _ _ _ _ _))
  (k_with "EdgeF:setItem ref int" => k_here; (with_reducible show wpAny _ _ (setItem (Value.ref _) (Value.int _ _) _) _ _ _); k_dflt (refine' setItem_M (knd := intKind prog _) (by k_asm) (by k_asm) (by k_mem) (by with_reducible assumption) (intKind_is _ _ _ _) (by with_reducible assumption) ?_); intro _ _ _ _ _)
  trivial
theorem edge_c0 : ∀ {w : World} {A A₀ : Around} {base : Heap} {outer : List Env} {s : Shared} {h₀ : Heap} {L : Addr} {m : Str → Option Value} {nw : Led} (C : CxS w A A₀ base outer h₀ L 0) (F : Fr h₀ L s.heap m) (N : News h₀ L s.heap nw)
    (hh : A.handled = none) {R : Result → Shared → Prop} {x dx tr de fs ol : Addr} (hd : DfaAt nw x dx tr de fs ol) {q : Int} {t : Tok} {ot od oo : Obj} {kvs kvo : List (Int × Value)} (ho : (tr, ot) ∈ nw) (hT : ot.IsDictOf (intKind prog w) kvs) (lo1 : (tr == sysModules) = false)
    (ho2 : (de, od) ∈ nw) (hD : od.IsDictOf (intKind prog w) []) (lo2 : (de == sysModules) = false)
    (ho3 : (ol, oo) ∈ nw) (hO : oo.IsDictOf (intKind prog w) kvo) (lo3 : (ol == sysModules) = false)
    {kv : List (Str × Value)} (hin : TransAt (w := w) nw kvs q kv) {la : Addr} {lvs : List Value} {lc : Nat} {ss : List Str} (hca : valueAt kvo q = some (.ref la)) (hcm : (la, listOf lvs.toArray lc) ∈ nw) (hSt : StrsAre lvs ss) (hlz : lvs.length < 1000) (hper : ss.Perm (kv.map (·.1))) (hsd : ss.Pairwise (fun a b => ¬ b.cps.toList < a.cps.toList))
    (_h : ∀ h₀' h' tk' v nw' kvo' oo', TurnS A₀ base outer h₀ h₀' → Fr h₀' L h' m → News h₀' L h' nw' → Keep [ol] nw nw' → (ol, oo') ∈ nw' → oo'.IsDictOf (intKind prog w) kvo' → OutStep nw nw' kvo kvo' q kv → NextEdge kv (Str.ofString "\x00").cps.toList v → R (.ok (.ret v)) ⟨h', s.gens, s.drawn, tk', s.os⟩),
    codeAny (model prog w) A (.call (.ref 286) ⟨[.ref x, .int q t, .none], [(Str.ofString "asbytes", .bool false)]⟩) R s := by
  intro w A A₀ base outer s h₀ L m nw
  refine CxS.el ?_
  (intro XB lo mean mg mb TB B D cn cs a ccd hA hck hdep hun F N hh R x dx tr de fs ol; refine x0_2 ?_; intro d1; refine x11_1 ?_; intro g1 g2 g3 g4 g5 t1 t2 t3 t4 t5 tn d2; intro q t ot od oo kvs kvo ho hT lo1 ho2 hD lo2 ho3 hO lo3 kv hin la lvs lc ss hca hcm hSt hlz hper hsd h)
  have X₀ := XB.keeps B.stays
  have T := TB.keeps B.stays
  refine fillIt ?_
  k_fill
  intro _
  w_strict (
    walk_at "m_enterS"
    intro g' L' h' FG' F' N' B' X' T' D'
    (try dsimp only [b11_8, b11_8s])
    k_fold
    refine fr_open [(Str.ofString "self", .ref x), (Str.ofString "s", .int q t), (Str.ofString "label", .none), (Str.ofString "asbytes", .bool false)] F' (by walk_at "m_names") ?_
    clear F'
    intro m0 F'
    dsimp only [over] at F'
    k_steps
    · exact h _ _ _ _ _ _ _ ⟨by assumption, by assumption, by assumption⟩ (by assumption) (by assumption) (Keep.cons (.refl _) _) (.tail _ ho3) hO (.inl rfl) (next_direct (by assumption))
    · exact h _ _ _ _ _ _ _ ⟨by assumption, by assumption, by assumption⟩ (by assumption) (by assumption) (Keep.cons (.refl _) _) (.tail _ ho3) hO (.inl rfl) (next_pos hSt hper hsd (by assumption) (by assumption) (by assumption))
    · exact h _ _ _ _ _ _ _ ⟨by assumption, by assumption, by assumption⟩ (by assumption) (by assumption) (Keep.cons (.refl _) _) (.tail _ ho3) hO (.inl rfl) (next_none hSt hper (by assumption) (by assumption)))
theorem edge_m0 : ∀ {w : World} {A A₀ : Around} {base : Heap} {outer : List Env} {s : Shared} {h₀ : Heap} {L : Addr} {m : Str → Option Value} {nw : Led} (C : CxS w A A₀ base outer h₀ L 0) (F : Fr h₀ L s.heap m) (N : News h₀ L s.heap nw)
    (hh : A.handled = none) {R : Result → Shared → Prop} {x dx tr de fs ol : Addr} (hd : DfaAt nw x dx tr de fs ol) {q : Int} {t : Tok} {ot od oo : Obj} {kvs kvo : List (Int × Value)} (ho : (tr, ot) ∈ nw) (hT : ot.IsDictOf (intKind prog w) kvs) (lo1 : (tr == sysModules) = false)
    (ho2 : (de, od) ∈ nw) (hD : od.IsDictOf (intKind prog w) []) (lo2 : (de == sysModules) = false)
    (ho3 : (ol, oo) ∈ nw) (hO : oo.IsDictOf (intKind prog w) kvo) (lo3 : (ol == sysModules) = false)
    {kv : List (Str × Value)} (hin : TransAt (w := w) nw kvs q kv) (hca : valueAt kvo q = none) (hlz : kvo.length ≤ sizeLine) (h64 : kv.length < 64)
    (_h : ∀ h₀' h' tk' v nw' kvo' oo', TurnS A₀ base outer h₀ h₀' → Fr h₀' L h' m → News h₀' L h' nw' → Keep [ol] nw nw' → (ol, oo') ∈ nw' → oo'.IsDictOf (intKind prog w) kvo' → OutStep nw nw' kvo kvo' q kv → NextEdge kv (Str.ofString "\x00").cps.toList v → R (.ok (.ret v)) ⟨h', s.gens, s.drawn, tk', s.os⟩),
    codeAny (model prog w) A (.call (.ref 286) ⟨[.ref x, .int q t, .none], [(Str.ofString "asbytes", .bool false)]⟩) R s := by
  intro w A A₀ base outer s h₀ L m nw
  refine CxS.el ?_
  (intro XB lo mean mg mb TB B D cn cs a ccd hA hck hdep hun F N hh R x dx tr de fs ol; refine x0_2 ?_; intro d1; refine x11_1 ?_; intro g1 g2 g3 g4 g5 t1 t2 t3 t4 t5 tn d2; intro q t ot od oo kvs kvo ho hT lo1 ho2 hD lo2 ho3 hO lo3 kv hin hca hlz h64 h)
  have X₀ := XB.keeps B.stays
  have T := TB.keeps B.stays
  refine fillIt ?_
  k_fill
  intro _
  w_strict (
    walk_at "m_enterS"
    intro g' L' h' FG' F' N' B' X' T' D'
    (try dsimp only [b11_8, b11_8s])
    k_fold
    refine fr_open [(Str.ofString "self", .ref x), (Str.ofString "s", .int q t), (Str.ofString "label", .none), (Str.ofString "asbytes", .bool false)] F' (by walk_at "m_names") ?_
    clear F'
    intro m0 F'
    dsimp only [over] at F'
    k_steps
    · exact h _ _ _ _ _ _ _ ⟨by assumption, by assumption, by assumption⟩ (by assumption) (by assumption) (Keep.cons (.refl _) _) (.tail _ ho3) hO (.inl rfl) (next_direct (by assumption))
    · rename (_ ∧ AllLt _ nw) => qA
      rename (StrsAre _ _) => qS
      rename (List.Perm _ _) => qP
      rename (List.Pairwise _ _) => qW
      exact h _ _ _ _ _ _ _ ⟨by assumption, by assumption, by assumption⟩ (by assumption) (by assumption) (fun p hp hn => mem_put_of (.tail _ (.tail _ hp)) (fun e => hn (by rw [e]; exact .head _))) mem_put (by assumption) (.inr ⟨hca, _, _, _, _, rfl, mem_put_of (.head _) (ne_of_allLt qA.2 ho3), ⟨qS, qP, qW⟩, allLt_ne qA.2⟩) (next_pos qS qP qW (by assumption) (by assumption) (by assumption))
    · rename (_ ∧ AllLt _ nw) => qA
      rename (StrsAre _ _) => qS
      rename (List.Perm _ _) => qP
      rename (List.Pairwise _ _) => qW
      exact h _ _ _ _ _ _ _ ⟨by assumption, by assumption, by assumption⟩ (by assumption) (by assumption) (fun p hp hn => mem_put_of (.tail _ (.tail _ hp)) (fun e => hn (by rw [e]; exact .head _))) mem_put (by assumption) (.inr ⟨hca, _, _, _, _, rfl, mem_put_of (.head _) (ne_of_allLt qA.2 ho3), ⟨qS, qP, qW⟩, allLt_ne qA.2⟩) (next_none qS qP (by assumption) (by assumption)))
theorem edge_c1 : ∀ {w : World} {A A₀ : Around} {base : Heap} {outer : List Env} {s : Shared} {h₀ : Heap} {L : Addr} {m : Str → Option Value} {nw : Led} (C : CxS w A A₀ base outer h₀ L 0) (F : Fr h₀ L s.heap m) (N : News h₀ L s.heap nw)
    (hh : A.handled = none) {R : Result → Shared → Prop} {x dx tr de fs ol : Addr} (hd : DfaAt nw x dx tr de fs ol) {q : Int} {t : Tok} {ot od oo : Obj} {kvs kvo : List (Int × Value)} (ho : (tr, ot) ∈ nw) (hT : ot.IsDictOf (intKind prog w) kvs) (lo1 : (tr == sysModules) = false)
    (ho2 : (de, od) ∈ nw) (hD : od.IsDictOf (intKind prog w) []) (lo2 : (de == sysModules) = false)
    (ho3 : (ol, oo) ∈ nw) (hO : oo.IsDictOf (intKind prog w) kvo) (lo3 : (ol == sysModules) = false)
    {kv : List (Str × Value)} (hin : TransAt (w := w) nw kvs q kv) {c0 : Nat} {tl : Tok} (hc0 : c0 < 1000) {la : Addr} {lvs : List Value} {lc : Nat} {ss : List Str} (hca : valueAt kvo q = some (.ref la)) (hcm : (la, listOf lvs.toArray lc) ∈ nw) (hSt : StrsAre lvs ss) (hlz : lvs.length < 1000) (hper : ss.Perm (kv.map (·.1))) (hsd : ss.Pairwise (fun a b => ¬ b.cps.toList < a.cps.toList))
    (_h : ∀ h₀' h' tk' v nw' kvo' oo', TurnS A₀ base outer h₀ h₀' → Fr h₀' L h' m → News h₀' L h' nw' → Keep [ol] nw nw' → (ol, oo') ∈ nw' → oo'.IsDictOf (intKind prog w) kvo' → OutStep nw nw' kvo kvo' q kv → NextEdge kv (⟨#[c0 + 1]⟩ : Str).cps.toList v → R (.ok (.ret v)) ⟨h', s.gens, s.drawn, tk', s.os⟩),
    codeAny (model prog w) A (.call (.ref 286) ⟨[.ref x, .int q t, .str ⟨#[c0]⟩ tl], [(Str.ofString "asbytes", .bool false)]⟩) R s := by
  intro w A A₀ base outer s h₀ L m nw
  refine CxS.el ?_
  (intro XB lo mean mg mb TB B D cn cs a ccd hA hck hdep hun F N hh R x dx tr de fs ol; refine x0_2 ?_; intro d1; refine x11_1 ?_; intro g1 g2 g3 g4 g5 t1 t2 t3 t4 t5 tn d2; intro q t ot od oo kvs kvo ho hT lo1 ho2 hD lo2 ho3 hO lo3 kv hin c0 tl hc0 la lvs lc ss hca hcm hSt hlz hper hsd h)
  have X₀ := XB.keeps B.stays
  have T := TB.keeps B.stays
  refine fillIt ?_
  k_fill
  intro _
  w_strict (
    walk_at "m_enterS"
    intro g' L' h' FG' F' N' B' X' T' D'
    (try dsimp only [b11_8, b11_8s])
    k_fold
    refine fr_open [(Str.ofString "self", .ref x), (Str.ofString "s", .int q t), (Str.ofString "label", .str ⟨#[c0]⟩ tl), (Str.ofString "asbytes", .bool false)] F' (by walk_at "m_names") ?_
    clear F'
    intro m0 F'
    dsimp only [over] at F'
    k_steps
    · exact h _ _ _ _ _ _ _ ⟨by assumption, by assumption, by assumption⟩ (by assumption) (by assumption) (Keep.cons (.refl _) _) (.tail _ ho3) hO (.inl rfl) (next_direct (by assumption))
    · exact h _ _ _ _ _ _ _ ⟨by assumption, by assumption, by assumption⟩ (by assumption) (by assumption) (Keep.cons (.refl _) _) (.tail _ ho3) hO (.inl rfl) (next_pos hSt hper hsd (by assumption) (by assumption) (by assumption))
    · exact h _ _ _ _ _ _ _ ⟨by assumption, by assumption, by assumption⟩ (by assumption) (by assumption) (Keep.cons (.refl _) _) (.tail _ ho3) hO (.inl rfl) (next_none hSt hper (by assumption) (by assumption)))
theorem edge_m1 : ∀ {w : World} {A A₀ : Around} {base : Heap} {outer : List Env} {s : Shared} {h₀ : Heap} {L : Addr} {m : Str → Option Value} {nw : Led} (C : CxS w A A₀ base outer h₀ L 0) (F : Fr h₀ L s.heap m) (N : News h₀ L s.heap nw)
    (hh : A.handled = none) {R : Result → Shared → Prop} {x dx tr de fs ol : Addr} (hd : DfaAt nw x dx tr de fs ol) {q : Int} {t : Tok} {ot od oo : Obj} {kvs kvo : List (Int × Value)} (ho : (tr, ot) ∈ nw) (hT : ot.IsDictOf (intKind prog w) kvs) (lo1 : (tr == sysModules) = false)
    (ho2 : (de, od) ∈ nw) (hD : od.IsDictOf (intKind prog w) []) (lo2 : (de == sysModules) = false)
    (ho3 : (ol, oo) ∈ nw) (hO : oo.IsDictOf (intKind prog w) kvo) (lo3 : (ol == sysModules) = false)
    {kv : List (Str × Value)} (hin : TransAt (w := w) nw kvs q kv) {c0 : Nat} {tl : Tok} (hc0 : c0 < 1000) (hca : valueAt kvo q = none) (hlz : kvo.length ≤ sizeLine) (h64 : kv.length < 64)
    (_h : ∀ h₀' h' tk' v nw' kvo' oo', TurnS A₀ base outer h₀ h₀' → Fr h₀' L h' m → News h₀' L h' nw' → Keep [ol] nw nw' → (ol, oo') ∈ nw' → oo'.IsDictOf (intKind prog w) kvo' → OutStep nw nw' kvo kvo' q kv → NextEdge kv (⟨#[c0 + 1]⟩ : Str).cps.toList v → R (.ok (.ret v)) ⟨h', s.gens, s.drawn, tk', s.os⟩),
    codeAny (model prog w) A (.call (.ref 286) ⟨[.ref x, .int q t, .str ⟨#[c0]⟩ tl], [(Str.ofString "asbytes", .bool false)]⟩) R s := by
  intro w A A₀ base outer s h₀ L m nw
  refine CxS.el ?_
  (intro XB lo mean mg mb TB B D cn cs a ccd hA hck hdep hun F N hh R x dx tr de fs ol; refine x0_2 ?_; intro d1; refine x11_1 ?_; intro g1 g2 g3 g4 g5 t1 t2 t3 t4 t5 tn d2; intro q t ot od oo kvs kvo ho hT lo1 ho2 hD lo2 ho3 hO lo3 kv hin c0 tl hc0 hca hlz h64 h)
  have X₀ := XB.keeps B.stays
  have T := TB.keeps B.stays
  refine fillIt ?_
  k_fill
  intro _
  w_strict (
    walk_at "m_enterS"
    intro g' L' h' FG' F' N' B' X' T' D'
    (try dsimp only [b11_8, b11_8s])
    k_fold
    refine fr_open [(Str.ofString "self", .ref x), (Str.ofString "s", .int q t), (Str.ofString "label", .str ⟨#[c0]⟩ tl), (Str.ofString "asbytes", .bool false)] F' (by walk_at "m_names") ?_
    clear F'
    intro m0 F'
    dsimp only [over] at F'
    k_steps
    · exact h _ _ _ _ _ _ _ ⟨by assumption, by assumption, by assumption⟩ (by assumption) (by assumption) (Keep.cons (.refl _) _) (.tail _ ho3) hO (.inl rfl) (next_direct (by assumption))
    · rename (_ ∧ AllLt _ nw) => qA
      rename (StrsAre _ _) => qS
      rename (List.Perm _ _) => qP
      rename (List.Pairwise _ _) => qW
      exact h _ _ _ _ _ _ _ ⟨by assumption, by assumption, by assumption⟩ (by assumption) (by assumption) (fun p hp hn => mem_put_of (.tail _ (.tail _ hp)) (fun e => hn (by rw [e]; exact .head _))) mem_put (by assumption) (.inr ⟨hca, _, _, _, _, rfl, mem_put_of (.head _) (ne_of_allLt qA.2 ho3), ⟨qS, qP, qW⟩, allLt_ne qA.2⟩) (next_pos qS qP qW (by assumption) (by assumption) (by assumption))
    · rename (_ ∧ AllLt _ nw) => qA
      rename (StrsAre _ _) => qS
      rename (List.Perm _ _) => qP
      rename (List.Pairwise _ _) => qW
      exact h _ _ _ _ _ _ _ ⟨by assumption, by assumption, by assumption⟩ (by assumption) (by assumption) (fun p hp hn => mem_put_of (.tail _ (.tail _ hp)) (fun e => hn (by rw [e]; exact .head _))) mem_put (by assumption) (.inr ⟨hca, _, _, _, _, rfl, mem_put_of (.head _) (ne_of_allLt qA.2 ho3), ⟨qS, qP, qW⟩, allLt_ne qA.2⟩) (next_none qS qP (by assumption) (by assumption)))
end EdgeF
section Add
local macro_rules | `(tactic| walk_at $s:str) => do
  let k := Lean.Syntax.mkStrLit ("Add:" ++ s.getString)
  `(tactic| k_extra $k)
local macro_rules | `(tactic| walk_at "zz") => `(tactic| skip)
section
variable {w : World} {A : Around} {E : Value → Shared → Prop} {s : Shared} {h₀ : Heap} {L d : Addr} {m : Str → Option Value} {nw : Led} {κ : Type} [DecidableEq κ] {knd : KeyKind prog w κ} {o : Obj} {kvs : List (κ × Value)} {k : κ} {key v dflt : Value}
theorem setdefault_there {Q : Value → Shared → Prop} (F : Fr h₀ L s.heap m) (N : News h₀ L s.heap nw) (hp : (d, o) ∈ nw) (hd : o.IsDictOf knd kvs) (lo : (d == sysModules) = false) (hkey : knd.is k key = true) (hsz : kvs.length ≤ sizeLine) (hv : valueAt kvs k = some v)
    (h : Q v { s with toks := s.toks + 1 }) : wpAny (model prog w) A (call (.builtin "dict.setdefault") [.ref d, key, dflt]) Q E s :=
  setdefault_M F N hp hd lo hkey hsz (fun u hu => by rw [hv] at hu; cases hu; exact h) fun hn => by rw [hv] at hn; cases hn
theorem setdefault_new {Q : Value → Shared → Prop} (F : Fr h₀ L s.heap m) (N : News h₀ L s.heap nw) (hp : (d, o) ∈ nw) (hd : o.IsDictOf knd kvs) (lo : (d == sysModules) = false) (hkey : knd.is k key = true) (hsz : kvs.length ≤ sizeLine) (hv : valueAt kvs k = none)
    (h : ∀ h' o', Fr h₀ L h' m → News h₀ L h' (put d o' nw) → o'.IsDictOf knd (stored kvs k dflt) → Q dflt { s with heap := h', toks := s.toks + 1 }) : wpAny (model prog w) A (call (.builtin "dict.setdefault") [.ref d, key, dflt]) Q E s :=
  setdefault_M F N hp hd lo hkey hsz (fun u hu => by rw [hv] at hu; cases hu) fun _ h' o' F' N' hd' => h h' o' F' N' hd'
end
example : True := by
  (k_with "Add:call builtin:dict.setdefault" => k_here; (with_reducible show wpAny _ _ (call (Value.builtin "dict.setdefault") [Value.ref _, Value.int _ _, _]) _ _ _); k_dflt (refine' setdefault_there (knd := intKind prog _) (by k_asm) (by k_asm) (by k_mem) (by with_reducible assumption) (by with_reducible assumption) (intKind_is _ _ _ _) (by with_reducible assumption) (by with_reducible assumption) ?_))
  (k_with "Add:call builtin:dict.setdefault" => k_here; (with_reducible show wpAny _ _ (call (Value.builtin "dict.setdefault") [Value.ref _, Value.int _ _, _]) _ _ _); k_dflt (refine' setdefault_new (knd := intKind prog _) (by k_asm) (by k_asm) (by k_mem) (by with_reducible assumption) (by with_reducible assumption) (intKind_is _ _ _ _) (by with_reducible assumption) (by with_reducible assumption) ?_); intro _ _ _ _ _)
  (k_with "Add:setItem ref str" => k_here; (with_reducible show wpAny _ _ (setItem (Value.ref _) (Value.str _ _) _) _ _ _); k_dflt (refine' setItem_M (knd := PySem.strKind prog _) (by k_asm) (by k_asm) (by k_mem) (by with_reducible assumption) (strKind_is _ _ _ _) (by with_reducible assumption) ?_); intro _ _ _ _ _)
  (k_with "Add:getMethod ref" => k_here; (with_reducible show wpAny _ _ (getMethod (Value.ref _) (Str.ofString "add") _) _ _ _); k_dflt (refine' setadd_method (knd := intKind prog _) (by k_asm) (by k_mem) (by with_reducible assumption) (by with_reducible assumption) ?_))
  (k_with "Add:call builtin:set.add" => k_here; (with_reducible show wpAny _ _ (call (Value.builtin "set.add") [Value.ref _, Value.int _ _]) _ _ _); k_dflt (refine' setadd_M (knd := intKind prog _) (by k_asm) (by k_asm) (by k_mem) (by with_reducible assumption) (intKind_is _ _ _ _) rfl (by with_reducible assumption) ?_); intro _ _ _ _ _)
  trivial
theorem addT_there : ∀ {w : World} {A : Around} {s : Shared} {h₀ : Heap} {L : Addr} {m : Str → Option Value} {nw : Led} (C : Cx w A h₀ L 0) (F : Fr h₀ L s.heap m) (N : News h₀ L s.heap nw)
    {R : Result → Shared → Prop} {x dx tr de fs ol : Addr} (hd : DfaAt nw x dx tr de fs ol) {q n : Int} {t tn : Tok} {lb : Str} {tl : Tok} {ot oa : Obj} {kvs : List (Int × Value)} {kv : List (Str × Value)} {a : Addr} (ho : (tr, ot) ∈ nw) (hT : ot.IsDictOf (intKind prog w) kvs) (lo1 : (tr == sysModules) = false)
    (hv : valueAt kvs q = some (.ref a)) (ha : (a, oa) ∈ nw) (hda : oa.IsDictOf (PySem.strKind prog w) kv) (hz1 : kvs.length ≤ sizeLine) (hz2 : kv.length ≤ sizeLine)
    (_h : ∀ h' tk' nw' oa', Fr h₀ L h' m → News h₀ L h' nw' → Keep [a] nw nw' → (a, oa') ∈ nw' → oa'.IsDictOf (PySem.strKind prog w) (stored kv lb (.int n tn)) → R (.ok (.ret .none)) ⟨h', s.gens, s.drawn, tk', s.os⟩),
    codeAny (model prog w) A (.call (.ref 243) ⟨[.ref x, .int q t, .str lb tl, .int n tn], []⟩) R s := by
  intro w A s h₀ L m nw
  refine Cx.el ?_
  (intro X₀ lo mean mg mb T A₀ base outer env B hA hf hke hdep hun F N R x dx tr de fs ol; refine x0_2 ?_; intro d1; refine x11_1 ?_; intro g1 g2 g3 g4 g5 t1 t2 t3 t4 t5 tn' d2; intro q n t tn lb tl ot oa kvs kv a ho hT lo1 hv ha hda hz1 hz2 h)
  refine fillIt ?_
  k_fill
  intro _
  w_strict (
    walk_at "m_enter"
    intro g' L' h' FG' F' N' B' X' T'
    (try dsimp only [b11_2, b11_2s])
    k_fold
    refine fr_open [(Str.ofString "self", _), (Str.ofString "src", _), (Str.ofString "label", _), (Str.ofString "dest", _)] F' (by walk_at "m_names") ?_
    clear F'
    intro m0 F'
    dsimp only [over] at F'
    k_steps
    exact h _ _ _ _ (by assumption) (by assumption) (fun p hp hn => mem_put_of (.tail _ hp) (fun e => hn (by rw [e]; exact .head _))) mem_put (by with_reducible assumption))
theorem addT_new : ∀ {w : World} {A : Around} {s : Shared} {h₀ : Heap} {L : Addr} {m : Str → Option Value} {nw : Led} (C : Cx w A h₀ L 0) (F : Fr h₀ L s.heap m) (N : News h₀ L s.heap nw)
    {R : Result → Shared → Prop} {x dx tr de fs ol : Addr} (hd : DfaAt nw x dx tr de fs ol) {q n : Int} {t tn : Tok} {lb : Str} {tl : Tok} {ot : Obj} {kvs : List (Int × Value)} (ho : (tr, ot) ∈ nw) (hT : ot.IsDictOf (intKind prog w) kvs) (lo1 : (tr == sysModules) = false)
    (hv : valueAt kvs q = none) (hz1 : kvs.length ≤ sizeLine)
    (_h : ∀ h' tk' nw' a oa' ot', Fr h₀ L h' m → News h₀ L h' nw' → Keep [tr] nw nw' → Fresh nw a → (a == sysModules) = false → (a, oa') ∈ nw' → oa'.IsDictOf (PySem.strKind prog w) (stored [] lb (.int n tn)) → (tr, ot') ∈ nw' → ot'.IsDictOf (intKind prog w) (stored kvs q (.ref a)) → R (.ok (.ret .none)) ⟨h', s.gens, s.drawn, tk', s.os⟩),
    codeAny (model prog w) A (.call (.ref 243) ⟨[.ref x, .int q t, .str lb tl, .int n tn], []⟩) R s := by
  intro w A s h₀ L m nw
  refine Cx.el ?_
  (intro X₀ lo mean mg mb T A₀ base outer env B hA hf hke hdep hun F N R x dx tr de fs ol; refine x0_2 ?_; intro d1; refine x11_1 ?_; intro g1 g2 g3 g4 g5 t1 t2 t3 t4 t5 tn' d2; intro q n t tn lb tl ot kvs ho hT lo1 hv hz1 h)
  have hz0 : ([] : List (Str × Value)).length ≤ sizeLine := Nat.zero_le _
  refine fillIt ?_
  k_fill
  intro _
  w_strict (
    walk_at "m_enter"
    intro g' L' h' FG' F' N' B' X' T'
    (try dsimp only [b11_2, b11_2s])
    k_fold
    refine fr_open [(Str.ofString "self", _), (Str.ofString "src", _), (Str.ofString "label", _), (Str.ofString "dest", _)] F' (by walk_at "m_names") ?_
    clear F'
    intro m0 F'
    dsimp only [over] at F'
    k_steps
    rename (∀ p : Addr × Obj, p ∈ nw → p.1 < _) => q0
    exact h _ _ _ _ _ _ (by assumption) (by assumption) (fun p hp hn => mem_put_of (mem_put_of (.tail _ hp) (fun e => hn (by rw [e]; exact .head _))) (Nat.ne_of_lt (q0 p hp))) (fun p hp => Nat.ne_of_lt (q0 p hp)) (by with_reducible assumption) mem_put (by with_reducible assumption) (mem_put_of mem_put (Nat.ne_of_lt (q0 _ ho))) (by with_reducible assumption))
theorem addF_spec : ∀ {w : World} {A : Around} {s : Shared} {h₀ : Heap} {L : Addr} {m : Str → Option Value} {nw : Led} (C : Cx w A h₀ L 0) (F : Fr h₀ L s.heap m) (N : News h₀ L s.heap nw)
    {R : Result → Shared → Prop} {x dx tr de fs ol : Addr} (hd : DfaAt nw x dx tr de fs ol) {q : Int} {t : Tok} {o : Obj} {S : Int → Bool} {n : Nat} (ho : (fs, o) ∈ nw) (hS : o.SetObjOf (intKind prog w) S n) (hb : n < scanBound) (hb1 : n + 1 < scanBound)
    (_h : ∀ h' tk' nw' o', Fr h₀ L h' m → News h₀ L h' nw' → Keep [fs] nw nw' → (fs, o') ∈ nw' → o'.SetObjOf (intKind prog w) (fun k' => S k' || decide (k' = q)) (if S q then n else n + 1) → R (.ok (.ret .none)) ⟨h', s.gens, s.drawn, tk', s.os⟩),
    codeAny (model prog w) A (.call (.ref 257) ⟨[.ref x, .int q t], []⟩) R s := by
  intro w A s h₀ L m nw
  refine Cx.el ?_
  (intro X₀ lo mean mg mb T A₀ base outer env B hA hf hke hdep hun F N R x dx tr de fs ol; refine x0_2 ?_; intro d1; refine x11_1 ?_; intro g1 g2 g3 g4 g5 t1 t2 t3 t4 t5 tn d2; intro q t o S n ho hS hb hb1 h)
  refine fillIt ?_
  k_fill
  intro _
  w_strict (
    walk_at "m_enter"
    intro g' L' h' FG' F' N' B' X' T'
    (try dsimp only [b11_4, b11_4s])
    k_fold
    refine fr_open [(Str.ofString "self", _), (Str.ofString "state", _)] F' (by walk_at "m_names") ?_
    clear F'
    intro m0 F'
    dsimp only [over] at F'
    k_steps
    exact h _ _ _ _ (by assumption) (by assumption) keep_put mem_put (by with_reducible assumption))
end Add
section Fin0
local macro_rules | `(tactic| walk_at $s:str) => do
  let k := Lean.Syntax.mkStrLit ("Fin0:" ++ s.getString)
  `(tactic| k_extra $k)
section
variable {w : World} {A : Around} {E : Value → Shared → Prop} {s : Shared} {h₀ : Heap} {L d : Addr} {m : Str → Option Value} {nw : Led} {o : Obj}
theorem scan_absent {a : Addr} {x : Value} {H : Int} {adding : Bool} : ∀ (l : List (Int × Value)) (i : Nat) {Q : ScanMet → Shared → Prop}, (∀ e ∈ l, e.1 ≠ H) → Q .absent s → wpAny (model prog w) A (setScanFrom a x H adding l i) Q E s
  | [], i, Q, _, h => by unfold setScanFrom; exact wpAny_pure h
  | e :: l, i, Q, hl, h => by
    obtain ⟨h', y⟩ := e
    unfold setScanFrom
    rw [if_neg (by simpa using hl (h', y) (.head _))]
    exact scan_absent l (i + 1) (fun e he => hl e (.tail _ he)) h
theorem hash_small {k : Int} (h0 : 0 ≤ k) (h1 : k < 2 ^ 31) : hashInt k = k := by
  (refine feed (Int.eq_ofNat_of_zero_le h0) ?_; refine x1_1 ?_; intro n; intro zz9; subst zz9)
  have hn : n < 2 ^ 31 := by lia
  have e1 : n % (2 ^ 61 - 1) = n := Nat.mod_eq_of_lt (by lia)
  have e2 : rawHash (n : Int) = n := by
    have e3 : (((n : Int).natAbs : Nat) : Int) % ((2 ^ 61 - 1 : Nat) : Int) = (n : Int) := by rw [Int.natAbs_natCast, ← Int.natCast_emod, e1]
    unfold rawHash
    dsimp only
    rw [e3, if_neg (show ¬ ((n : Int) < 0) by lia), if_neg (show ¬ (((n : Int) == -1) = true) by simp)]
  unfold hashInt
  rw [e2, if_neg (show ¬ (((n : Int) == -1) = true) by simp)]
theorem setin_none {Q : Value → Shared → Prop} {S : Int → Bool} {n : Nat} (N : News h₀ L s.heap nw) (hp : (d, o) ∈ nw) (hd : o.SetObjOf (intKind prog w) S n) (hb : n < scanBound) (hS : ∀ k, S k = true → 0 ≤ k ∧ k < 2 ^ 31) (hu : A.units + 5 < cLine)
    (h : ∀ tk, Q (.bool false) { s with toks := tk }) : wpAny (model prog w) A (compareOp .In .none (.ref d)) Q E s := by
  have hSt := hd.setOf (N _ hp).1 hb
  (refine feed (id hSt) ?_; refine x4_1 ?_; intro ob es ep t; refine x0_8 ?_; intro ho hex hdt hel hmem hbb hf hn)
  have hne : ∀ e ∈ es.toList, e.1 ≠ reduceHash 4238894112 := fun e he => by
    (refine feed (hel e he) ?_; refine x0_2 ?_; refine x1_1 ?_; intro k; refine x0_2 ?_; intro hk hh; intro _)
    (refine feed (hS k ((hmem k).mpr ⟨e, he, hk⟩)) ?_; refine x0_2 ?_; intro a b)
    rw [hh]
    show hashInt k ≠ _
    rw [hash_small a b]
    have : reduceHash 4238894112 = 4238894112 := by decide
    rw [this]; lia
  show wpAny _ _ (do return .bool (← contains (.ref d) .none)) Q E s
  refine wpAny_bind ?_
  unfold contains
  try with_reducible refine wpAny_holding ?_
  refine wpAny_bind (wpAny_specialOf hSt.typeIs PySem.F.slot_set_contains.lookup ?_)
  show wpAny _ _ (if (some (Value.builtin "set.__contains__") == some Value.none) = true then _ else _) _ E s
  rw [if_neg (by rw [beq_builtin_none]; exact Bool.false_ne_true)]
  refine wpAny_bind (wpAny_callSpecialUnlessNone?_slot (name := Str.ofString "__contains__") hSt.typeIs PySem.F.slot_set_contains
    (wpAny_call_entry PySem.F.slot_set_contains hSt.typeIs entry_set_contains ?_ (PySem.F.args_set_contains_2 _ _)))
  unfold Builtin.«frozenset.__contains__» Builtin.Frozenset.oneOther
  simp only [List.isEmpty_nil, bind_assoc]
  unfold Builtin.Frozenset.addrOf Builtin.Frozenset.withSetAsKey setContains
  refine wpAny_bind (wpAny_pure ?_)
  try dsimp only
  refine wpAny_bind (wpAny_pure ?_)
  try dsimp only
  refine wpAny_bind (wpAny_tryCatch ?_)
  refine wpAny_holding ?_
  refine wpAny_bind (pyHash_slot (T := "NoneType") rfl PySem.F.slot_NoneType_hash PySem.F.entry_NoneType_hash (PySem.F.args_NoneType_hash_1 _) (beq_builtin_none _) (.inr (by show A.units + 1 < cLine; lia)) (wpAny_bind (wpAny_pure (wpAny_bind (wpAny_mkInt (wpAny_pure ⟨_, _, rfl, ?_⟩))))))
  refine wpAny_bind ?_
  unfold setFind setFindIn
  refine wpAny_bind (wpAny_setState_of ho hdt hf ?_)
  dsimp only
  rw [byScan_of (x := .none) rfl hbb hel]
  simp only [↓reduceIte]
  refine wpAny_bind (wpAny_rule ?_)
  show wpAny _ _ (setScanFrom d .none _ false es.toList 0 >>= _) _ _ _
  refine wpAny_bind (scan_absent _ 0 hne ?_)
  dsimp only
  refine wpAny_pure ?_
  refine wpAny_pure ?_
  show wpAny _ _ (ret (Value.bool false)) _ _ _
  exact wpAny_pure ⟨_, rfl, wpAny_truthy_bool (wpAny_pure (h _))⟩
end
example : True := by
  (k_with "Fin0:compareOp In" => k_here; (with_reducible show wpAny _ _ (compareOp CmpOp.In Value.none (Value.ref _)) _ _ _); k_dflt (refine' setin_none (by k_asm) (by k_mem) (by with_reducible assumption) (by with_reducible assumption) (by with_reducible assumption) (by (simp only [Around.in1_units, Around.deeper_units, Around.mark_units]; (have e : cLine = 9900 := rfl); lia)) ?_); intro _)
  trivial
theorem final_none : ∀ {w : World} {A : Around} {s : Shared} {h₀ : Heap} {L : Addr} {m : Str → Option Value} {nw : Led} (C : Cx w A h₀ L 0) (F : Fr h₀ L s.heap m) (N : News h₀ L s.heap nw)
    {R : Result → Shared → Prop} {x dx tr de fs ol : Addr} (hd : DfaAt nw x dx tr de fs ol) {o : Obj} {S : Int → Bool} {n : Nat} (ho : (fs, o) ∈ nw) (hS : o.SetObjOf (intKind prog w) S n) (hn : n < scanBound) (hsm : ∀ k, S k = true → 0 ≤ k ∧ k < 2 ^ 31)
    (_h : ∀ h' tk', Fr h₀ L h' m → News h₀ L h' nw → R (.ok (.ret (.bool false))) ⟨h', s.gens, s.drawn, tk', s.os⟩),
    codeAny (model prog w) A (.call (.ref 264) ⟨[.ref x, .none], []⟩) R s := by
  intro w A s h₀ L m nw
  refine Cx.el ?_
  (intro X₀ lo mean mg mb T A₀ base outer env B hA hf hke hdep hun F N R x dx tr de fs ol; refine x0_2 ?_; intro d1; refine x11_1 ?_; intro g1 g2 g3 g4 g5 t1 t2 t3 t4 t5 tn d2; intro o S n ho hS hn hsm h)
  refine fillIt ?_
  k_fill
  intro _
  w_strict (
    walk_at "m_enter"
    intro g' L' h' FG' F' N' B' X' T'
    (try dsimp only [b11_5, b11_5s])
    k_fold
    refine fr_open [(Str.ofString "self", _), (Str.ofString "state", _)] F' (by walk_at "m_names") ?_
    clear F'
    intro m0 F'
    dsimp only [over] at F'
    k_steps
    exact h _ _ (by assumption) (by assumption))
end Fin0
section Key
section
variable {w : World}
/-- the items of a tuple, each with its hash, and the tokens that the hashing draws -/
inductive HashSteps (w : World) (A : Around) (hp : Heap) : List Value → List Int → Nat → Prop
  | nil : HashSteps w A hp [] [] 0
  | cons {v : Value} {h : Int} {d n : Nat} {vs : List Value} {hs : List Int} : (∀ (E : Value → Shared → Prop) (s : Shared) (Q : Int → Shared → Prop), s.heap = hp → Q h { s with toks := s.toks + d } → wpAny (model prog w) A (pyHash v) Q E s) → HashSteps w A hp vs hs n → HashSteps w A hp (v :: vs) (h :: hs) (d + n)
variable {A : Around} {E : Value → Shared → Prop} {s : Shared}
theorem tup_hash {a : Addr} {items : Array Value} {hs : List Int} {n : Nat} {Q : Int → Shared → Prop} (hu : A.units < cLine) (ho : s.heap.get? a = some (tupObj items)) (H : HashSteps w A.in1 s.heap items.toList hs n)
    (h : Q (reduceHash (Builtin.Tuple.tupleHashOf hs)) { s with toks := s.toks + (n + 1) }) : wpAny (model prog w) A (pyHash (.ref a)) Q E s := by
  have hT : s.TypeIs (.ref a) "tuple" := ⟨_, ho, rfl⟩
  unfold pyHash
  first | unfold pyHashByItsType | skip
  first | refine wpAny_bind (wpAny_cRoomFor_or (.inr hu) ?_) | skip
  refine wpAny_bind (wpAny_specialOf hT PySem.F.slot_tuple_hash.lookup ?_)
  show wpAny _ _ (if (some (Value.builtin "tuple.__hash__") == some Value.none) = true then _ else _) Q E s
  rw [if_neg (by rw [beq_builtin_none]; exact Bool.false_ne_true)]
  refine wpAny_bind (wpAny_specialOf hT PySem.F.slot_tuple_hash.lookup ?_)
  show wpAny _ _ (callSpecialIfBoundUnlessNone? (.ref a) "__hash__" _ >>= _) Q E s
  refine wpAny_bind (wpAny_callSpecialIfBoundUnlessNone?_slot hT PySem.F.slot_tuple_hash (wpAny_call_entry PySem.F.slot_tuple_hash hT PySem.F.entry_tuple_hash ?_ (PySem.F.args_tuple_hash_1 _)))
  show wpAny _ _ (Builtin.Tuple.tupleItemsOf (.ref a) >>= _) _ _ s
  refine wpAny_bind (wpAny_tupleItemsOf ho rfl ?_)
  refine wpAny_bind ?_
  rw [← Array.forIn_toList]
  refine wpAny_forIn_list _
    (fun rest (b : Array Int) s' => ∃ left k j, HashSteps w A.in1 s.heap rest left k ∧ b.toList ++ left = hs ∧ j + k = n ∧ s' = { s with toks := s.toks + j })
    _ ?_ ?_ _ _ ⟨hs, n, 0, H, rfl, by lia, rfl⟩
  · (intro x rest b s'; refine x3_1 ?_; intro left k j; refine x0_4 ?_; intro hl hb hj; intro zz9; subst zz9)
    cases hl with
    | @cons _ h1 d k' _ left' step hl' =>
      refine wpAny_bind (step _ _ _ rfl ?_)
      first
        | exact wpAny_pure ⟨left', k', j + d, hl', by simp [← hb], by lia, by simp [Nat.add_assoc]⟩
        | exact wpAny_bind (wpAny_pure (wpAny_pure ⟨left', k', j + d, hl', by simp [← hb], by lia, by simp [Nat.add_assoc]⟩))
  · (intro b s'; refine x3_1 ?_; intro left k j; refine x0_4 ?_; intro hl hb hj; intro zz9; subst zz9)
    cases hl
    rw [List.append_nil] at hb
    subst hb
    have hjn : j = n := by lia
    subst hjn
    show wpAny _ _ (retInt (Builtin.Tuple.tupleHashOf b.toList)) _ _ _
    refine wpAny_ret_mkInt ?_
    show wpAny _ _ (if (decide (-(2 : Int) ^ 63 ≤ Builtin.Tuple.tupleHashOf b.toList) && decide (Builtin.Tuple.tupleHashOf b.toList < 2 ^ 63)) = true then _ else _) Q E _
    unfold reduceHash at h
    by_cases hr : (decide (-(2 : Int) ^ 63 ≤ Builtin.Tuple.tupleHashOf b.toList) && decide (Builtin.Tuple.tupleHashOf b.toList < 2 ^ 63)) = true
    · rw [if_pos hr]
      rw [if_pos hr] at h
      exact wpAny_pure (by simpa [Nat.add_assoc] using h)
    · rw [if_neg hr]
      rw [if_neg hr] at h
      exact wpAny_bind (wpAny_rule (wpAny_pure (by simpa [Nat.add_assoc] using h)))
/-- the items of two tuples, pair by pair -/
inductive EqSteps (w : World) (A : Around) (hp : Heap) : List Value → List Value → Bool → Prop
  | nil : EqSteps w A hp [] [] true
  | left {v vs} : EqSteps w A hp (v :: vs) [] false
  | right {v vs} : EqSteps w A hp [] (v :: vs) false
  | cons {u v : Value} {b c : Bool} {us vs : List Value} : (∀ (E : Value → Shared → Prop) (s : Shared) (Q : Bool → Shared → Prop), s.heap = hp → Q b s → wpAny (model prog w) A (eqBool u v) Q E s) → EqSteps w A hp us vs c → EqSteps w A hp (u :: us) (v :: vs) (b && c)
variable {A : Around} {E : Value → Shared → Prop} {s : Shared}
theorem tup_eq_tree {a b : Addr} {xs ys : Array Value} {r : Bool} {P : PySem.Fin → Shared → Prop} (hx : s.heap.get? a = some (tupObj xs)) (hy : s.heap.get? b = some (tupObj ys)) (H : EqSteps w A s.heap xs.toList ys.toList r) (h : P (.done (.ret (.bool r))) s) :
    wpAny (model prog w) A (Builtin.«tuple.__eq__» ⟨[.ref a, .ref b], []⟩) P E s := by
  have hTb : s.TypeIs (.ref b) "tuple" := ⟨_, hy, rfl⟩
  show wpAny _ _ (isInstance (.ref b) (.type "tuple") >>= _) _ _ s
  refine wpAny_bind (wpAny_isInstance hTb isSubtype_tuple_tuple ?_)
  simp only [Bool.not_true, Bool.false_eq_true, if_false]
  refine wpAny_bind (wpAny_tupleItemsOf hx rfl ?_)
  refine wpAny_bind (wpAny_tupleItemsOf hy rfl ?_)
  refine wpAny_bind ?_
  refine wpAny_forIn_list _
    (fun rest q s' => q.1 = none ∧ s' = s ∧ ∃ xs' ys', rest = List.zip xs' ys' ∧ EqSteps w A s.heap xs' ys' r ∧ (xs'.length == ys'.length) = (xs.size == ys.size))
    _ ?_ ?_ _ _ ⟨rfl, rfl, xs.toList, ys.toList, rfl, H, by simp⟩
  · (refine xp ?_; intro u v; intro rest q s'; rintro ⟨hq, rfl, xs', ys', hz, hE, hlen⟩)
    cases hE with
    | nil => simp at hz
    | left => simp at hz
    | right => simp at hz
    | @cons u' v' b1 c1 us vs step rest' =>
      simp only [List.zip_cons_cons, List.cons.injEq, Prod.mk.injEq] at hz
      (revert hz; refine x0_2 ?_; refine x0_2 ?_; intro zz9; subst zz9; intro zz9; subst zz9; intro zz9; subst zz9)
      refine wpAny_bind (step _ _ _ rfl ?_)
      cases b1 with
      | true =>
        simp only [Bool.not_true, Bool.false_eq_true, if_false]
        exact wpAny_pure ⟨rfl, rfl, us, vs, rfl, by simpa using rest', by simpa using hlen⟩
      | false =>
        simp only [Bool.not_false, if_true]
        rw [Bool.false_and] at h
        exact wpAny_bind (wpAny_pure (wpAny_pure (wpAny_pure h)))
  · (refine xp ?_; intro r1 r2; intro s'; rintro ⟨hq, rfl, xs', ys', hz, hE, hlen⟩)
    simp only at hq
    subst hq
    refine wpAny_pure ?_
    have hfin : (xs.size == ys.size) = r := by
      rw [← hlen]
      cases hE with
      | nil => rfl
      | left => simp
      | right => simp
      | cons _ _ => simp at hz
    show P (.done (.ret (.bool (xs.size == ys.size)))) s'
    rw [hfin]; exact h
theorem tup_eq {a b : Addr} {xs ys : Array Value} {r : Bool} {Q : Bool → Shared → Prop} (hu : A.units < cLine) (hx : s.heap.get? a = some (tupObj xs)) (hy : s.heap.get? b = some (tupObj ys)) (H : EqSteps w A.in1 s.heap xs.toList ys.toList r) (hab : a = b → r = true) (h : Q r s) :
    wpAny (model prog w) A (eqBool (.ref a) (.ref b)) Q E s := by
  unfold eqBool
  try with_reducible refine wpAny_holding ?_
  show wpAny _ _ (if (Value.ref a == Value.ref b) = true then _ else _) Q E s
  by_cases hab' : (Value.ref a == Value.ref b) = true
  · rw [if_pos hab']
    have e : a = b := by have := eq_of_beq hab'; injection this
    rw [hab e] at h
    exact wpAny_bind (wpAny_rule (wpAny_pure h))
  · rw [if_neg hab']
    have hTa : s.TypeIs (.ref a) "tuple" := ⟨_, hx, rfl⟩
    have hTb : s.TypeIs (.ref b) "tuple" := ⟨_, hy, rfl⟩
    exact wpAny_bind (wpAny_richCompare_same_room (op := .Eq) hTa hTb PySem.F.slot_tuple_eq
      (wpAny_call_entry PySem.F.slot_tuple_eq hTa PySem.F.entry_tuple_eq (tup_eq_tree (A := A.in1) hx hy H ⟨_, rfl, (fun e => nomatch e), wpAny_truthy_bool h⟩) (PySem.F.args_tuple_eq_2 _ _)) hu)
theorem tup_quiet {n : Nat} {a : Addr} {xs : Array Value} {Q : Bool → Shared → Prop} (ho : s.heap.get? a = some (tupObj xs)) (H : ∀ v ∈ xs.toList, ∀ (E : Value → Shared → Prop) (s' : Shared) (Q : Bool → Shared → Prop), s'.heap = s.heap → Q true s' → wpAny (model prog w) A (eqIsQuiet n v) Q E s') (h : Q true s) :
    wpAny (model prog w) A (eqIsQuiet (n + 1) (.ref a)) Q E s := by
  have hT : s.TypeIs (.ref a) "tuple" := ⟨_, ho, rfl⟩
  unfold eqIsQuiet
  refine wpAny_bind (wpAny_specialOf hT PySem.F.slot_tuple_eq.lookup ?_)
  show wpAny _ _ (isInstance (.ref a) (.type "tuple") >>= _) _ _ s
  refine wpAny_bind (wpAny_isInstance hT isSubtype_tuple_tuple ?_)
  simp only [Bool.not_true, Bool.false_eq_true, if_false]
  refine wpAny_bind (wpAny_seqItems ho rfl ?_)
  refine wpAny_bind ?_
  show wpAny _ _ (forIn xs _ _) _ _ s
  rw [← Array.forIn_toList]
  refine wpAny_forIn_list _ (fun rest r s' => r.1 = none ∧ s' = s ∧ ∀ v ∈ rest, v ∈ xs.toList) _ ?_ ?_ _ _ ⟨rfl, rfl, fun _ h => h⟩
  · (intro v rest r s'; refine x0_3 ?_; intro hr; intro zz9; subst zz9; intro hall)
    refine wpAny_bind (H v (hall v List.mem_cons_self) _ _ _ rfl ?_)
    simp only [Bool.not_true, Bool.false_eq_true, if_false]
    exact wpAny_pure ⟨rfl, rfl, fun u hu' => hall u (List.mem_cons_of_mem _ hu')⟩
  · (refine xp ?_; intro r1 r2; intro s'; refine x0_3 ?_; intro hr; intro zz9; subst zz9; intro _)
    simp only at hr
    subst hr
    exact wpAny_pure h
end
end Key
section Seen
noncomputable def PairsIn (h : Heap) : List Addr → List (Str × Int) → Prop
  | [], [] => True
  | a :: as, p :: ps => (∃ t u, h.get? a = some (tupObj #[.str p.1 t, .int p.2 u])) ∧ PairsIn h as ps
  | _, _ => False
noncomputable abbrev SeenK := List (Str × Int) × Bool
noncomputable def SeenIs (h : Heap) (k : SeenK) (a : Addr) : Prop := ∃ b ads, h.get? a = some (tupObj #[.ref b, .bool k.2]) ∧ h.get? b = some (tupObj (ads.map Value.ref).toArray) ∧ PairsIn h ads k.1
section
variable {w : World} {A : Around} {E : Value → Shared → Prop} {s : Shared}
theorem PairsIn.mono {h h' : Heap} (k : ∀ a xs, h.get? a = some (tupObj xs) → h'.get? a = some (tupObj xs)) : ∀ {as ps}, PairsIn h as ps → PairsIn h' as ps
  | [], [], _ => trivial
  | a :: as, p :: ps, ⟨⟨t, u, e⟩, r⟩ => ⟨⟨t, u, k _ _ e⟩, PairsIn.mono k r⟩
  | [], _ :: _, x => x.elim
  | _ :: _, [], x => x.elim
theorem PairsIn.inj {h : Heap} : ∀ {as ps qs}, PairsIn h as ps → PairsIn h as qs → ps = qs
  | [], [], [], _, _ => rfl
  | a :: as, p :: ps, q :: qs, ⟨⟨t, u, e⟩, r⟩, ⟨⟨t', u', e'⟩, r'⟩ => by
    rw [e] at e'
    have := Option.some.inj e'
    injection this with _ _ h3
    injection h3 with h4
    have h5 := congrArg Array.toList h4
    simp at h5
    rw [PairsIn.inj r r']
    congr 1
    exact Prod.ext h5.1.1 h5.2.1
  | [], [], _ :: _, _, x => x.elim
  | [], _ :: _, _, x, _ => x.elim
  | _ :: _, [], _, x, _ => x.elim
  | _ :: _, _ :: _, [], _, x => x.elim
theorem tup_ref_inj {xs ys : List Addr} (e : tupObj (xs.map Value.ref).toArray = tupObj (ys.map Value.ref).toArray) : xs = ys := by
  injection e with _ _ h3
  injection h3 with h4
  have h5 := congrArg Array.toList h4
  simp only at h5
  exact List.map_inj_right (fun a b h => by injection h) |>.mp h5
theorem SeenIs.inj {h : Heap} {a : Addr} {x y : SeenK} (hx : SeenIs h x a) (hy : SeenIs h y a) : x = y := by
  (revert hx; refine x2_1 ?_; intro b ads; refine x0_3 ?_; intro h1 h2 h3)
  (revert hy; refine x2_1 ?_; intro b' ads'; refine x0_3 ?_; intro k1 k2 k3)
  rw [h1] at k1
  have e := Option.some.inj k1
  injection e with _ _ e3
  injection e3 with e4
  have e5 := congrArg Array.toList e4
  simp at e5
  (revert e5; refine x0_2 ?_; intro zz9; subst zz9; intro e6)
  rw [h2] at k2
  have := tup_ref_inj (Option.some.inj k2)
  subst this
  exact Prod.ext (h3.inj k3) e6
theorem SeenIs.mono {h h' : Heap} (k : ∀ a xs, h.get? a = some (tupObj xs) → h'.get? a = some (tupObj xs)) {x : SeenK} {a : Addr} (hx : SeenIs h x a) : SeenIs h' x a :=
  let ⟨b, ads, h1, h2, h3⟩ := hx; ⟨b, ads, k _ _ h1, k _ _ h2, h3.mono k⟩
noncomputable def pairHash (w : World) (p : Str × Int) : Int := reduceHash (Builtin.Tuple.tupleHashOf [hashStr w p.1, hashInt p.2])
noncomputable def seenHash (w : World) (k : SeenK) : Int := reduceHash (Builtin.Tuple.tupleHashOf [reduceHash (Builtin.Tuple.tupleHashOf (k.1.map (pairHash w))), reduceHash (if k.2 then 1 else 0)])
theorem hash_bool {b : Bool} {Q : Int → Shared → Prop} (hu : A.units < cLine) (h : Q (reduceHash (if b then 1 else 0)) { s with toks := s.toks + 1 }) : wpAny (model prog w) A (pyHash (.bool b)) Q E s := by
  refine pyHash_slot (T := "bool") rfl PySem.F.slot_bool_hash entry_int_hash (args_int_hash _) (beq_builtin_none _) (.inr hu) ?_
  cases b
  · exact (show wpAny _ _ (do ret (← mkInt 0)) _ _ s from wpAny_bind (wpAny_mkInt (wpAny_pure ⟨_, _, rfl, h⟩)))
  · exact (show wpAny _ _ (do ret (← mkInt 1)) _ _ s from wpAny_bind (wpAny_mkInt (wpAny_pure ⟨_, _, rfl, h⟩)))
theorem hash_pair {hp : Heap} {a : Addr} {p : Str × Int} {t u : Tok} (hu : A.units < cLine) (e : hp.get? a = some (tupObj #[.str p.1 t, .int p.2 u])) (E : Value → Shared → Prop) (s : Shared) (Q : Int → Shared → Prop) (hs : s.heap = hp) (h : Q (pairHash w p) { s with toks := s.toks + 3 }) : wpAny (model prog w) A (pyHash (.ref a)) Q E s := by
  subst hs
  refine tup_hash (n := 2) hu e (.cons (d := 1) (fun _ _ _ _ hq => wpAny_pyHash_str hq) (.cons (d := 1) (fun _ _ _ _ hq => wpAny_pyHash_int hq) .nil)) h
theorem hash_pairs {hp : Heap} (hu : A.units < cLine) : ∀ {as ps}, PairsIn hp as ps → HashSteps w A hp (as.map Value.ref) (ps.map (pairHash w)) (3 * ps.length)
  | [], [], _ => .nil
  | a :: as, p :: ps, ⟨⟨t, u, e⟩, r⟩ => by
    have := HashSteps.cons (d := 3) (hash_pair hu e) (hash_pairs hu r)
    rw [show 3 * (p :: ps).length = 3 + 3 * ps.length by simp; lia]
    exact this
  | [], _ :: _, x => x.elim
  | _ :: _, [], x => x.elim
theorem seen_hash {k : SeenK} {a : Addr} {Q : Int → Shared → Prop} (hu : A.units + 20 < cLine) (hk : SeenIs s.heap k a) (h : Q (seenHash w k) { s with toks := s.toks + (3 * k.1.length + 3) }) : wpAny (model prog w) A (pyHash (.ref a)) Q E s := by
  (revert hk; refine x2_1 ?_; intro b ads; refine x0_3 ?_; intro h1 h2 h3)
  refine tup_hash (n := (3 * k.1.length + 1) + (1 + 0)) (by lia) h1 (.cons (d := 3 * k.1.length + 1) (fun E s' Q hs hq => ?_) (.cons (d := 1) (fun E s' Q hs hq => hash_bool (by show A.units + 1 < cLine; lia) hq) .nil)) h
  exact tup_hash (by show A.units + 1 < cLine; lia) (by rw [hs]; exact h2) (by rw [hs]; simpa using hash_pairs (A := A.in1.in1) (by show A.units + 1 + 1 < cLine; lia) h3) hq
theorem eqBool_bool {a b : Bool} {Q : Bool → Shared → Prop} (h : Q (decide (a = b)) s) : wpAny (model prog w) A (eqBool (.bool a) (.bool b)) Q E s := by
  unfold eqBool
  show wpAny _ _ (if (Value.bool a == Value.bool b) = true then _ else _) Q E s
  by_cases hab : (Value.bool a == Value.bool b) = true
  · rw [if_pos hab]
    have e : a = b := by have := eq_of_beq hab; injection this
    subst e
    exact wpAny_bind (wpAny_rule (wpAny_pure (by simpa using h)))
  · rw [if_neg hab]
    have e : (a == b) = decide (a = b) := by cases a <;> cases b <;> rfl
    exact wpAny_bind (show wpAny (model prog w) A (richCompare .Eq (.bool a) (.bool b)) _ E s from eq_bool (wpAny_truthy_bool (by rw [e]; exact h)))
theorem eq_pair {hp : Heap} {a b : Addr} {p q : Str × Int} {t u t' u' : Tok} (hu : A.units < cLine) (e : hp.get? a = some (tupObj #[.str p.1 t, .int p.2 u])) (e' : hp.get? b = some (tupObj #[.str q.1 t', .int q.2 u']))
    (E : Value → Shared → Prop) (s : Shared) (Q : Bool → Shared → Prop) (hs : s.heap = hp) (h : Q (decide (p = q)) s) : wpAny (model prog w) A (eqBool (.ref a) (.ref b)) Q E s := by
  subst hs
  have hr : decide (p = q) = (decide (p.1 = q.1) && ((p.2 == q.2) && true)) := by
    obtain ⟨p1, p2⟩ := p
    obtain ⟨q1, q2⟩ := q
    simp only [Prod.mk.injEq, Bool.and_true, Bool.decide_and]
    congr 1
  refine tup_eq (r := decide (p = q)) hu e e' ?_ (fun hab => ?_) h
  · rw [hr]
    exact .cons (fun _ _ _ _ hq => wpAny_eqBool_str hq) (.cons (fun _ _ _ _ hq => wpAny_eqBool_int hq) .nil)
  · subst hab
    have : PairsIn s.heap [a] [p] := ⟨⟨t, u, e⟩, trivial⟩
    have h2 : PairsIn s.heap [a] [q] := ⟨⟨t', u', e'⟩, trivial⟩
    have := this.inj h2
    simp only [List.cons.injEq, and_true] at this
    simp [this]
theorem eq_pairs {hp : Heap} (hu : A.units < cLine) : ∀ {as bs ps qs}, PairsIn hp as ps → PairsIn hp bs qs → EqSteps w A hp (as.map Value.ref) (bs.map Value.ref) (decide (ps = qs))
  | [], [], [], [], _, _ => .nil
  | a :: as, b :: bs, p :: ps, q :: qs, ⟨⟨t, u, e⟩, r⟩, ⟨⟨t', u', e'⟩, r'⟩ => by
    have := EqSteps.cons (eq_pair hu e e') (eq_pairs hu r r')
    have hd : decide (p :: ps = q :: qs) = (decide (p = q) && decide (ps = qs)) := by simp only [List.cons.injEq, Bool.decide_and]
    rw [hd]
    exact this
  | [], b :: bs, [], q :: qs, _, _ => .right
  | a :: as, [], p :: ps, [], _, _ => .left
  | [], _, _ :: _, _, x, _ => x.elim
  | _ :: _, _, [], _, x, _ => x.elim
  | _, [], _, _ :: _, _, x => x.elim
  | _, _ :: _, _, [], _, x => x.elim
theorem seen_eq {x y : SeenK} {a b : Addr} {Q : Bool → Shared → Prop} (hu : A.units + 20 < cLine) (hx : SeenIs s.heap x a) (hy : SeenIs s.heap y b) (h : Q (decide (x = y)) s) : wpAny (model prog w) A (eqBool (.ref a) (.ref b)) Q E s := by
  have hxy := hx
  (revert hx; refine x2_1 ?_; intro b1 ads; refine x0_3 ?_; intro h1 h2 h3)
  have hyy := hy
  (revert hy; refine x2_1 ?_; intro b2 ads'; refine x0_3 ?_; intro k1 k2 k3)
  have hr : decide (x = y) = (decide (x.1 = y.1) && (decide (x.2 = y.2) && true)) := by
    obtain ⟨p1, p2⟩ := x
    obtain ⟨q1, q2⟩ := y
    simp only [Prod.mk.injEq, Bool.and_true, Bool.decide_and]
  refine tup_eq (r := decide (x = y)) (by lia) h1 k1 ?_ (fun hab => ?_) h
  · rw [hr]
    refine .cons (fun E s' Q hs hq => ?_) (.cons (fun _ _ _ _ hq => eqBool_bool hq) .nil)
    refine tup_eq (r := decide (x.1 = y.1)) (by show A.units + 1 < cLine; lia) (by rw [hs]; exact h2) (by rw [hs]; exact k2) (by rw [hs]; simpa using eq_pairs (A := A.in1.in1) (by show A.units + 1 + 1 < cLine; lia) h3 k3) (fun hab => ?_) hq
    subst hab
    rw [h2] at k2
    have := tup_ref_inj (Option.some.inj k2)
    subst this
    simp [h3.inj k3]
  · subst hab
    simp [hxy.inj hyy]
theorem quiet_val {n : Nat} {v : Value} {Q : Bool → Shared → Prop} (hv : carriedByValue v = true) (h : Q true s) : wpAny (model prog w) A (eqIsQuiet n v) Q E s := wpAny_of_eq (eqIsQuiet_byValue n hv) h
theorem quiet_pairs {hp : Heap} {n : Nat} : ∀ {as ps}, PairsIn hp as ps → ∀ v ∈ as.map Value.ref, ∀ (E : Value → Shared → Prop) (s' : Shared) (Q : Bool → Shared → Prop), s'.heap = hp → Q true s' → wpAny (model prog w) A (eqIsQuiet (n + 1) v) Q E s'
  | [], [], _, v, hv => by simp at hv
  | a :: as, p :: ps, ⟨⟨t, u, e⟩, r⟩, v, hv => fun E s' Q hs hq => by
    rcases List.mem_cons.mp hv with rfl | hv
    · refine tup_quiet (by rw [hs]; exact e) (fun v hv E s'' Q _ hq => ?_) hq
      simp at hv
      rcases hv with rfl | rfl <;> exact quiet_val rfl hq
    · exact quiet_pairs r v hv E s' Q hs hq
  | [], _ :: _, x, _, _ => x.elim
  | _ :: _, [], x, _, _ => x.elim
theorem seen_quiet {k : SeenK} {a : Addr} {Q : Bool → Shared → Prop} (hk : SeenIs s.heap k a) (h : Q true s) : wpAny (model prog w) A (eqIsQuiet 8 (.ref a)) Q E s := by
  (revert hk; refine x2_1 ?_; intro b ads; refine x0_3 ?_; intro h1 h2 h3)
  refine tup_quiet h1 (fun v hv E s' Q hs hq => ?_) h
  simp at hv
  rcases hv with rfl | rfl
  · refine tup_quiet (by rw [hs]; exact h2) (fun v hv E s'' Q hs' hq => ?_) hq
    exact quiet_pairs h3 v (by simpa using hv) E s'' Q (hs'.trans hs) hq
  · exact quiet_val rfl hq
theorem SeenIs.keeps {h h' : Heap} {k : SeenK} {a d : Addr} {o : Obj} {es ep} (x : SeenIs h k a) (ho : h.get? d = some o) (hd : o.data = .dict es ep) (hs : Heap.SameBut d h h') : SeenIs h' k a :=
  x.mono fun b xs e => (hs.2 b fun q => by
    subst q
    rw [ho] at e
    have := Option.some.inj e
    subst this
    cases hd).trans e
end
noncomputable def seenKind (w : World) : HeapKind prog w SeenK where
  is := SeenIs
  hash := seenHash w
  draws := fun k => 3 * k.1.length + 3
  room := fun A => A.units + 20 < cLine
  inj := fun hx hy => hx.inj hy
  keeps := fun x ho hd hs => x.keeps ho hd hs
  pyHash := fun hu hk h => seen_hash hu hk h
  eqBool := fun hu hx hy h => seen_eq hu hx hy h
  quiet := fun hk h => seen_quiet hk h
end Seen
section SeenM
/-- the pair tuples of a key, in a ledger -/
noncomputable def PairsL (l : Led) : List Addr → List (Str × Int) → Prop
  | [], [] => True
  | a :: as, p :: ps => (∃ t u, (a, tupObj #[.str p.1 t, .int p.2 u]) ∈ l) ∧ PairsL l as ps
  | _, _ => False
noncomputable def SeenL (l : Led) (k : SeenK) (a : Addr) : Prop := ∃ b ads, (a, tupObj #[.ref b, .bool k.2]) ∈ l ∧ (b, tupObj (ads.map Value.ref).toArray) ∈ l ∧ PairsL l ads k.1
theorem PairsL.mono {l l' : Led} (h : ∀ a xs, (a, tupObj xs) ∈ l → (a, tupObj xs) ∈ l') : ∀ {as ps}, PairsL l as ps → PairsL l' as ps
  | [], [], _ => trivial
  | a :: as, p :: ps, ⟨⟨t, u, e⟩, r⟩ => ⟨⟨t, u, h _ _ e⟩, PairsL.mono h r⟩
  | [], _ :: _, x => x.elim
  | _ :: _, [], x => x.elim
theorem SeenL.mono {l l' : Led} (h : ∀ a xs, (a, tupObj xs) ∈ l → (a, tupObj xs) ∈ l') {k : SeenK} {a : Addr} (x : SeenL l k a) : SeenL l' k a := let ⟨b, ads, h1, h2, h3⟩ := x; ⟨b, ads, h _ _ h1, h _ _ h2, h3.mono h⟩
/-- a change at an object that is no tuple leaves the tuples -/
theorem tup_keep {h₀ h : Heap} {L d : Addr} {l l' : Led} {o : Obj} (N : News h₀ L h l) (hd : (d, o) ∈ l) (hc : o.cls ≠ .type "tuple") (k : Keep [d] l l') : ∀ a xs, (a, tupObj xs) ∈ l → (a, tupObj xs) ∈ l' :=
  fun a xs hm => k _ hm fun e => by
    have e' : a = d := by simpa using e
    subst e'
    have := same_at N hm hd
    exact hc (by rw [← this])
theorem PairsL.is {h₀ h : Heap} {L : Addr} {l : Led} (N : News h₀ L h l) : ∀ {as ps}, PairsL l as ps → PairsIn h as ps
  | [], [], _ => trivial
  | a :: as, p :: ps, ⟨⟨t, u, e⟩, r⟩ => ⟨⟨t, u, (N _ e).1⟩, PairsL.is N r⟩
  | [], _ :: _, x => x.elim
  | _ :: _, [], x => x.elim
theorem SeenL.is {h₀ h : Heap} {L : Addr} {l : Led} (N : News h₀ L h l) {k : SeenK} {a : Addr} (x : SeenL l k a) : SeenIs h k a := let ⟨b, ads, h1, h2, h3⟩ := x; ⟨b, ads, (N _ h1).1, (N _ h2).1, h3.is N⟩
/-- the dict of the keys seen -/
noncomputable def SeenD (w : World) (l : Led) (o : Obj) (xs : List (SeenK × Addr × Value)) : Prop :=
  o.ExactDict ∧ (∃ es ep, o.data = .dict es ep ∧ es.toList = xs.map (entryOfKey (seenKind w))) ∧ (∀ x ∈ xs, SeenL l x.1 x.2.1) ∧ (xs.map (·.1)).Nodup
theorem SeenD.mono {w : World} {l l' : Led} (h : ∀ a xs, (a, tupObj xs) ∈ l → (a, tupObj xs) ∈ l') {o : Obj} {xs} (x : SeenD w l o xs) : SeenD w l' o xs := ⟨x.1, x.2.1, fun y hy => (x.2.2.1 y hy).mono h, x.2.2.2⟩
theorem SeenD.nil {w : World} {l : Led} {κ : Type} [DecidableEq κ] {knd : KeyKind prog w κ} {o : Obj} (h : o.IsDictOf knd []) : SeenD w l o [] := by
  (revert h; refine x2_1 ?_; intro es ep; refine x0_5 ?_; intro h1 h2 h3 h4 h5)
  exact ⟨h1, ⟨es, ep, h2, List.eq_nil_of_length_eq_zero h4.length⟩, (fun _ h => nomatch h), List.nodup_nil⟩
section
variable {w : World} {A : Around} {E : Value → Shared → Prop} {s : Shared} {h₀ : Heap} {L d a : Addr} {m : Str → Option Value} {nw : Led} {o : Obj} {xs : List (SeenK × Addr × Value)} {k : SeenK} {v : Value}
theorem SeenD.at (N : News h₀ L s.heap nw) (hp : (d, o) ∈ nw) (x : SeenD w nw o xs) : s.heap.DictOfH (seenKind w) d xs :=
  let ⟨h1, ⟨es, ep, h2, h3⟩, h4, h5⟩ := x; ⟨o, es, ep, (N _ hp).1, h1, h2, h3, fun y hy => (h4 y hy).is N, h5⟩
theorem seen_item {p : Addr × Value} {value slice : Expr} {Q : Value → Shared → Prop} (hu : A.units + 30 < cLine) (N : News h₀ L s.heap nw) (hp : (d, o) ∈ nw) (hd : SeenD w nw o xs) (hk : SeenL nw k a) (hv : atKey xs k = some p)
    (h : ∀ tk, Q p.2 { s with toks := tk }) (hs : subscripted slice false (.ref d) (.ref a) = operate [.ref d, .ref a] (getItem (.ref d) (.ref a)) := by with_unfolding_all rfl) : wpAny (model prog w) A (subscriptTail value slice (.ref d) (.ref a)) Q E s :=
  have hD := hd.at N hp
  tail_any hD.typeIs slot_dict_getitem.lookup (wpAny_getItem_heap (knd := seenKind w) (by show A.units + 1 + 20 < cLine; lia) (hk.is N) hD hv (h _)) hs
theorem seen_missing {value slice : Expr} {Q : Value → Shared → Prop} (hu : A.units + 30 < cLine) (N : News h₀ L s.heap nw) (hp : (d, o) ∈ nw) (hd : SeenD w nw o xs) (lo : (d == sysModules) = false) (hk : SeenL nw k a) (hh : A.handled = none) (hv : atKey xs k = none)
    (h : ∀ h' e tk, Heap.NewExc s.heap h' e "KeyError" → E (.ref e) { s with heap := h', toks := tk }) (hs : subscripted slice false (.ref d) (.ref a) = operate [.ref d, .ref a] (getItem (.ref d) (.ref a)) := by with_unfolding_all rfl) : wpAny (model prog w) A (subscriptTail value slice (.ref d) (.ref a)) Q E s :=
  have hD := hd.at N hp
  tail_any hD.typeIs slot_dict_getitem.lookup (wpAny_getItem_missing_heap (knd := seenKind w) (by show A.units + 1 + 20 < cLine; lia) (hk.is N) lo hh hD hv fun h' e hx => h h' e _ hx) hs
theorem seen_set {Q : Unit → Shared → Prop} (hu : A.units + 30 < cLine) (F : Fr h₀ L s.heap m) (N : News h₀ L s.heap nw) (hp : (d, o) ∈ nw) (hd : SeenD w nw o xs) (hk : SeenL nw k a) (hv : atKey xs k = none) (hz : xs.length ≤ sizeLine)
    (h : ∀ h' o' tk, Fr h₀ L h' m → News h₀ L h' (put d o' nw) → SeenD w (put d o' nw) o' (xs ++ [(k, a, v)]) → Q () { s with heap := h', toks := tk }) : wpAny (model prog w) A (setItem (.ref d) (.ref a) v) Q E s := by
  refine wpAny_setItem_heap (knd := seenKind w) (by show A.units + 1 + 20 < cLine; lia) (hk.is N) (hd.at N hp) (fun h' hm' hs => ?_) hz
  (revert hm'; refine x3_1 ?_; intro o' es ep; refine x0_6 ?_; intro ho' q1 q2 q3 q4 q5)
  (refine feed (led_set F N hp hs ho') ?_; refine x0_2 ?_; intro F' N')
  rw [storedH_new hv] at q3 q4 q5
  have kt := tup_keep N hp (by rw [hd.1.1]; simp) (keep_put (a := d) (o := o') (l := nw))
  refine h h' o' _ F' N' ⟨q1, ⟨es, ep, q2, q3⟩, fun y hy => ?_, q5⟩
  rcases List.mem_append.mp hy with hy | hy
  · exact (hd.2.2.1 y hy).mono kt
  · rw [List.mem_singleton.mp hy]
    exact hk.mono kt
end
end SeenM
section Loops
section
variable {w : World} {A A₀ : Around} {base : Heap} {outer : List Env} {E : Value → Shared → Prop} {Q : Flow → Shared → Prop} {s : Shared} {env : Env} {g : Heap} {L : Addr} {α : Type}
/-- a turn's end of a while loop under a ground that may turn -/
noncomputable def WEnd (A₀ : Around) (base : Heap) (outer : List Env) (g : Heap) (L : Addr) (names : α → List (Str × Value)) (loose : Str → Prop) (m₀ : Str → Option Value) (J : Nat → α → Led → Prop) (n : Nat) (s₁ s₂ : Shared) : Prop :=
  ∃ g' h' tk st nw m' n', s₂ = { s₁ with heap := h', toks := tk } ∧ TurnS A₀ base outer g g' ∧ Fr g' L h' m' ∧ News g' L h' nw ∧ (∀ p ∈ names st, m' p.1 = some p.2) ∧ (∀ y, ¬ loose y → (∀ p ∈ names st, y ≠ p.1) → m' y = m₀ y) ∧ n' < n ∧ J n' st nw
noncomputable def WPost (A₀ : Around) (base : Heap) (outer : List Env) (g : Heap) (L : Addr) (names : α → List (Str × Value)) (loose : Str → Prop) (m₀ : Str → Option Value) (J : Nat → α → Led → Prop) (n : Nat) (Q : Flow → Shared → Prop) (s₁ : Shared) (f : Flow) (s₂ : Shared) : Prop :=
  match f with
  | .ret v => Q (.ret v) s₂
  | .brk => Q .next s₂
  | _ => WEnd A₀ base outer g L names loose m₀ J n s₁ s₂
theorem WPost.intro {names : α → List (Str × Value)} {loose : Str → Prop} {m₀ m' : Str → Option Value} {J : Nat → α → Led → Prop} {n : Nat} {s₁ : Shared} {g' h' : Heap} {tk : Nat} {nw : Led} (st : α) (n' : Nat) (T : TurnS A₀ base outer g g') (F : Fr g' L h' m') (N : News g' L h' nw)
    (h1 : ∀ p ∈ names st, m' p.1 = some p.2) (h2 : ∀ y, ¬ loose y → (∀ p ∈ names st, y ≠ p.1) → m' y = m₀ y) (hn : n' < n) (hJ : J n' st nw) : WPost A₀ base outer g L names loose m₀ J n Q s₁ .next { s₁ with heap := h', toks := tk } :=
  ⟨g', h', tk, st, nw, m', n', rfl, T, F, N, h1, h2, hn, hJ⟩
theorem While_S {test : Expr} {body : List Stmt} {pos : Pos} {m₀ : Str → Option Value} {nw : Led} (names : α → List (Str × Value)) (loose : Str → Prop) (J : Nat → α → Led → Prop) (st₀ : α) (n₀ : Nat)
    (T : TurnS A₀ base outer g g) (F : Fr g L s.heap m₀) (N : News g L s.heap nw) (hm0 : ∀ p ∈ names st₀, m₀ p.1 = some p.2) (hJ : J n₀ st₀ nw)
    (turn : ∀ (KW : Nat → Flow → Shared → Prop), (∀ n f s', WPost A₀ base outer g L names loose m₀ J n Q s f s' → KW n f s') → ∀ n st g' m₁ nw₁ h₁ tk₁, TurnS A₀ base outer g g' → Fr g' L h₁ m₁ → News g' L h₁ nw₁ → (∀ p ∈ names st, m₁ p.1 = some p.2) → (∀ y, ¬ loose y → (∀ p ∈ names st, y ≠ p.1) → m₁ y = m₀ y) → J n st nw₁ →
      wpAny (model prog w) A (isTrue test env (eval test env)) (fun b s₂ =>
        if b = true then wpAny (model prog w) A (execs body env) (KW n) E s₂ else Q .next s₂) E { s with heap := h₁, toks := tk₁ })
    (hE : PassesOwn (model prog w) A env E := by passes_own) :
    wpAny (model prog w) A (exec (.While test body [] pos) env) Q E s := by
  replace turn := turn (fun n => WPost A₀ base outer g L names loose m₀ J n Q s) (fun _ _ _ h => h)
  refine wpAny_While (codeAny_whileLoop (fun n s' => ∃ g' h₁ tk₁ m₁ st nw₁, s' = { s with heap := h₁, toks := tk₁ } ∧ TurnS A₀ base outer g g' ∧ Fr g' L h₁ m₁ ∧ News g' L h₁ nw₁ ∧ (∀ p ∈ names st, m₁ p.1 = some p.2) ∧ (∀ y, ¬ loose y → (∀ p ∈ names st, y ≠ p.1) → m₁ y = m₀ y) ∧ J n st nw₁) ?_ n₀
    ⟨g, s.heap, s.toks, m₀, st₀, nw, rfl, T, F, N, hm0, (fun _ _ _ => rfl), hJ⟩)
  (intro n s'; refine x6_1 ?_; intro g' h₁ tk₁ m₁ st nw₁; refine x0_7 ?_; intro zz9; subst zz9; intro T₁ F₁ N₁ a1 a2 J₁)
  refine wpAny_mono (turn n st g' m₁ nw₁ h₁ tk₁ T₁ F₁ N₁ a1 a2 J₁) (fun b s₂ h₂ => ?_) hE
  cases b with
  | false =>
    simp only [Bool.false_eq_true, if_false] at h₂ ⊢
    exact wpAny_execs_nil h₂
  | true =>
    simp only [if_true] at h₂ ⊢
    refine wpAny_mono h₂ (fun f s₃ h₃ => ?_) hE
    have fin : WEnd A₀ base outer g L names loose m₀ J n s s₃ → ∃ m, m < n ∧ ∃ g' h₁ tk₁ m₁ st nw₁, s₃ = { s with heap := h₁, toks := tk₁ } ∧ TurnS A₀ base outer g g' ∧ Fr g' L h₁ m₁ ∧ News g' L h₁ nw₁ ∧ (∀ p ∈ names st, m₁ p.1 = some p.2) ∧ (∀ y, ¬ loose y → (∀ p ∈ names st, y ≠ p.1) → m₁ y = m₀ y) ∧ J m st nw₁ := by
      (refine x7_1 ?_; intro g'' h' tk st' nw' m' n'; refine x0_8 ?_; intro e b1 b2 b3 b4 b5 b6 b7)
      exact ⟨n', b6, g'', h', tk, m', st', nw', e, b1, b2, b3, b4, b5, b7⟩
    cases f with
    | ret v => exact h₃
    | brk => exact h₃
    | next => exact fin h₃
    | cont => exact fin h₃
end
end Loops
section Conv
/-- the label of one sign -/
noncomputable def ch (c : Nat) : Str := ⟨#[c]⟩
theorem ch_inj {a b : Nat} (h : ch a = ch b) : a = b := by simpa [ch] using h
theorem ch_lt {a b : Nat} : (ch a).cps.toList < (ch b).cps.toList ↔ a < b := by
  show [a] < [b] ↔ a < b
  simp [List.cons_lt_cons_iff]
/-- a dict's items are these arcs -/
noncomputable def ArcsV : List (Str × Value) → List (Nat × Nat) → Prop
  | [], [] => True
  | kv :: kvs, a :: as => kv.1 = ch a.1 ∧ (∃ t, kv.2 = .int a.2 t) ∧ ArcsV kvs as
  | _, _ => False
noncomputable def arcsK (as : List (Nat × Nat)) : List (Str × Int) := as.map fun a => (ch a.1, (a.2 : Int))
theorem ArcsV.length : ∀ {kvs as}, ArcsV kvs as → kvs.length = as.length
  | [], [], _ => rfl
  | _ :: _, _ :: _, ⟨_, _, r⟩ => by simp [ArcsV.length r]
  | [], _ :: _, x => x.elim
  | _ :: _, [], x => x.elim
theorem ArcsV.keys : ∀ {kvs as}, ArcsV kvs as → kvs.map (·.1) = as.map fun a => ch a.1
  | [], [], _ => rfl
  | _ :: _, _ :: _, ⟨e, _, r⟩ => by simp [ArcsV.keys r, e]
  | [], _ :: _, x => x.elim
  | _ :: _, [], x => x.elim
theorem ArcsV.sorted : ∀ {kvs as}, ArcsV kvs as → as.Pairwise (fun a b => a.1 < b.1) → kvs.Pairwise fun x y => x.1.cps.toList < y.1.cps.toList
  | [], [], _, _ => .nil
  | kv :: kvs, a :: as, ⟨e, _, r⟩, h => by
    (refine feed (List.pairwise_cons.mp h) ?_; refine x0_2 ?_; intro h1 h2)
    refine List.pairwise_cons.mpr ⟨fun y hy => ?_, ArcsV.sorted r h2⟩
    have : y.1 ∈ kvs.map (·.1) := List.mem_map.mpr ⟨y, hy, rfl⟩
    rw [r.keys] at this
    (refine feed (List.mem_map.mp this) ?_; refine x1_1 ?_; intro b; refine x0_2 ?_; intro hb hb2)
    rw [e, ← hb2, ch_lt]
    exact h1 b hb
  | [], _ :: _, x, _ => x.elim
  | _ :: _, [], x, _ => x.elim
theorem PairTups.pairsL {l : Led} : ∀ {ads kvs as}, PairTups l ads kvs → ArcsV kvs as → PairsL l ads (arcsK as)
  | [], [], [], _, _ => trivial
  | ad :: ads, kv :: kvs, a :: as, ⟨⟨t, h⟩, r⟩, ⟨e, ⟨u, e2⟩, r'⟩ => by
    refine ⟨⟨t, u, ?_⟩, PairTups.pairsL r r'⟩
    rw [e, e2] at h
    exact h
  | [], [], _ :: _, _, x => x.elim
  | [], _ :: _, _, x, _ => x.elim
  | _ :: _, [], _, x, _ => x.elim
  | _ :: _, _ :: _, [], _, x => x.elim
theorem IsKey.seenL {l : Led} {a : Addr} {kvs : List (Str × Value)} {as : List (Nat × Nat)} {fin : Bool} (h : IsKey l a kvs fin) (hv : ArcsV kvs as) : SeenL l (arcsK as, fin) a := by
  (revert h; refine x2_1 ?_; intro b ads; refine x0_3 ?_; intro h1 h2 h3)
  exact y2_1 b ads (ya3 h1 h2 (PairTups.pairsL h3 hv))
/-- one arc laid -/
noncomputable def setArc (as : List (Nat × Nat)) (c q : Nat) : List (Nat × Nat) := if as.any (fun a => a.1 = c) then as.map (fun a => if a.1 = c then (c, q) else a) else as ++ [(c, q)]
theorem ArcsV.any {c : Nat} : ∀ {kvs as}, ArcsV kvs as → kvs.any (fun kv => decide (kv.1 = ch c)) = as.any (fun a => decide (a.1 = c))
  | [], [], _ => rfl
  | kv :: kvs, a :: as, ⟨e, _, r⟩ => by
    have : decide (kv.1 = ch c) = decide (a.1 = c) := by rw [e]; by_cases h : a.1 = c <;> simp [h, ch]
    simp only [List.any_cons, this, ArcsV.any r]
  | [], _ :: _, x => x.elim
  | _ :: _, [], x => x.elim
theorem ArcsV.map {c q : Nat} {t : Tok} : ∀ {kvs as}, ArcsV kvs as → ArcsV (kvs.map fun kv => if kv.1 = ch c then (kv.1, Value.int q t) else kv) (as.map fun a => if a.1 = c then (c, q) else a)
  | [], [], _ => trivial
  | kv :: kvs, a :: as, ⟨e, ⟨u, e2⟩, r⟩ => by
    by_cases h : a.1 = c
    · have h' : kv.1 = ch c := by rw [e, h]
      simp only [List.map_cons, h, h', if_true]
      exact ⟨rfl, ⟨t, rfl⟩, ArcsV.map r⟩
    · have h' : ¬ kv.1 = ch c := fun x => h (ch_inj (e ▸ x))
      simp only [List.map_cons, if_neg h, if_neg h']
      exact ⟨e, ⟨u, e2⟩, ArcsV.map r⟩
  | [], _ :: _, x => x.elim
  | _ :: _, [], x => x.elim
theorem ArcsV.append {c q : Nat} {t : Tok} : ∀ {kvs as}, ArcsV kvs as → ArcsV (kvs ++ [(ch c, Value.int q t)]) (as ++ [(c, q)])
  | [], [], _ => ⟨rfl, ⟨t, rfl⟩, trivial⟩
  | _ :: _, _ :: _, ⟨e, h, r⟩ => ⟨e, h, ArcsV.append r⟩
  | [], _ :: _, x => x.elim
  | _ :: _, [], x => x.elim
theorem ArcsV.stored {kvs : List (Str × Value)} {as : List (Nat × Nat)} (h : ArcsV kvs as) (c q : Nat) (t : Tok) : ArcsV (PySem.stored kvs (ch c) (.int q t)) (setArc as c q) := by
  unfold PySem.stored setArc
  rw [h.any]
  by_cases hc : (as.any fun a => decide (a.1 = c)) = true
  · rw [if_pos hc, if_pos hc]; exact h.map
  · rw [if_neg hc, if_neg hc]; exact h.append
end Conv
section Pure1
theorem digs_acc : ∀ n x acc, digs n x acc = digs n x [] ++ acc
  | 0, _, acc => by simp [digs]
  | n + 1, x, acc => by rw [digs, digs, digs_acc n _ (_ :: acc), digs_acc n _ [_]]; simp
theorem digs_succ (n x : Nat) : digs (n + 1) x [] = digs n (x / 85) [] ++ [b85s.getD (x % 85) 0] := by
  rw [digs, digs_acc]
theorem app_lt : ∀ {a b c d : List Nat}, a.length = b.length → (a ++ c < b ++ d ↔ a < b ∨ a = b ∧ c < d)
  | [], [], c, d, _ => by simp
  | x :: a, y :: b, c, d, h => by
    have ih := app_lt (a := a) (b := b) (c := c) (d := d) (by simpa using h)
    simp only [List.cons_append, List.cons_lt_cons_iff, ih, List.cons.injEq]
    constructor
    · rintro (h | ⟨h, h' | ⟨h1, h2⟩⟩)
      · exact .inl (.inl h)
      · exact .inl (.inr ⟨h, h'⟩)
      · exact .inr ⟨⟨h, h1⟩, h2⟩
    · rintro ((h | h) | ⟨⟨h1, h2⟩, h3⟩)
      · exact .inl h
      · exact .inr ⟨h.1, .inl h.2⟩
      · exact .inr ⟨h1, .inr ⟨h2, h3⟩⟩
  | [], _ :: _, _, _, h => by simp at h
  | _ :: _, [], _, _, h => by simp at h
theorem b85_lt : ∀ i, i < 85 → ∀ j, j < 85 → i < j → b85s.getD i 0 < b85s.getD j 0 := by decide
theorem b85_lt_iff {i j : Nat} (hi : i < 85) (hj : j < 85) : b85s.getD i 0 < b85s.getD j 0 ↔ i < j := by
  refine ⟨fun h => ?_, b85_lt i hi j hj⟩
  rcases Nat.lt_trichotomy i j with h' | h' | h'
  · exact h'
  · subst h'; lia
  · have := b85_lt j hj i hi h'; lia
theorem b85_inj {i j : Nat} (hi : i < 85) (hj : j < 85) (h : b85s.getD i 0 = b85s.getD j 0) : i = j := by
  rcases Nat.lt_trichotomy i j with h' | h' | h'
  · have := b85_lt i hi j hj h'; lia
  · exact h'
  · have := b85_lt j hj i hi h'; lia
theorem b85_range : ∀ i, i < 85 → 33 ≤ b85s.getD i 0 ∧ b85s.getD i 0 < 127 := by decide
theorem digs_inj : ∀ n {x y : Nat}, x < 85 ^ n → y < 85 ^ n → digs n x [] = digs n y [] → x = y
  | 0, x, y, hx, hy, _ => by simp at hx hy; lia
  | n + 1, x, y, hx, hy, h => by
    rw [digs_succ, digs_succ] at h
    (refine feed (List.append_inj h (by rw [digs_length, digs_length])) ?_; refine x0_2 ?_; intro h1 h2)
    rw [Nat.pow_succ] at hx hy
    have a := digs_inj n (Nat.div_lt_of_lt_mul (by lia)) (Nat.div_lt_of_lt_mul (by lia)) h1
    have b := b85_inj (Nat.mod_lt _ (by decide)) (Nat.mod_lt _ (by decide)) (List.cons.inj h2).1
    lia
theorem digs_lt : ∀ n {x y : Nat}, x < 85 ^ n → y < 85 ^ n → (digs n x [] < digs n y [] ↔ x < y)
  | 0, x, y, hx, hy => by simp [digs] at *; lia
  | n + 1, x, y, hx, hy => by
    rw [digs_succ, digs_succ, app_lt (by rw [digs_length, digs_length])]
    rw [Nat.pow_succ] at hx hy
    have hx' : x / 85 < 85 ^ n := Nat.div_lt_of_lt_mul (by lia)
    have hy' : y / 85 < 85 ^ n := Nat.div_lt_of_lt_mul (by lia)
    rw [digs_lt n hx' hy']
    have e : ([b85s.getD (x % 85) 0] < [b85s.getD (y % 85) 0]) ↔ x % 85 < y % 85 := by
      rw [List.cons_lt_cons_iff, b85_lt_iff (Nat.mod_lt _ (by decide)) (Nat.mod_lt _ (by decide))]
      simp
    rw [e]
    constructor
    · rintro (h | ⟨h, h'⟩)
      · lia
      · have := digs_inj n hx' hy' h; lia
    · intro h
      rcases Nat.lt_or_ge (x / 85) (y / 85) with h' | h'
      · exact .inl h'
      · have : x / 85 = y / 85 := by lia
        exact .inr ⟨by rw [this], by lia⟩
theorem digs_range : ∀ n x, ∀ c ∈ digs n x [], 33 ≤ c ∧ c < 127
  | 0, _, c, h => by simp [digs] at h
  | n + 1, x, c, h => by
    rw [digs_succ, List.mem_append] at h
    rcases h with h | h
    · exact digs_range n _ c h
    · simp at h; subst h; have := b85_range (x % 85) (Nat.mod_lt _ (by decide)); simpa using this
/-- one term's text -/
noncomputable def termC (big : Bool) (sh v : Nat) : List Nat := (33 + sh) :: digs (if big then 10 else 5) v []
end Pure1
section Pure2
/-- the rows of split_ranges: base b = 2^step, n levels above this one, level k, the first unit S and the last unit E -/
noncomputable def rws (b : Nat) : Nat → Nat → Nat → Nat → List (Nat × Nat × Nat)
  | 0, k, S, E => [(S, E, k)]
  | n + 1, k, S, E =>
    if (E + 1) / b ≤ (S + b - 1) / b then [(S, E, k)]
    else (if S % b = 0 then [] else [(S, S / b * b + (b - 1), k)]) ++ ((if E % b = b - 1 then [] else [(E / b * b, E, k)]) ++ rws b n (k + 1) ((S + b - 1) / b) ((E + 1) / b - 1))
noncomputable def cov (b x : Nat) (r : Nat × Nat × Nat) : Bool := decide (r.1 ≤ x / b ^ r.2.2 ∧ x / b ^ r.2.2 ≤ r.2.1)
noncomputable def one (p : Prop) [Decidable p] : Nat := if p then 1 else 0
theorem up_div {b S : Nat} (hb : 1 < b) : (S + b - 1) / b = if S % b = 0 then S / b else S / b + 1 := by
  have hm := Nat.mod_lt S (show 0 < b by lia)
  have hd := Nat.div_add_mod S b
  have hc : b * (S / b + 1) = b * (S / b) + b := Nat.mul_succ ..
  split
  · exact (Nat.div_eq_of_lt_le (by rw [Nat.mul_comm]; lia) (by rw [Nat.mul_comm, hc]; lia))
  · refine (Nat.div_eq_of_lt_le (by rw [Nat.mul_comm, hc]; lia) ?_)
    rw [Nat.mul_comm, Nat.mul_succ, hc]; lia
theorem succ_div {b E : Nat} (hb : 1 < b) : (E + 1) / b = if E % b = b - 1 then E / b + 1 else E / b := by
  have hm := Nat.mod_lt E (show 0 < b by lia)
  have hd := Nat.div_add_mod E b
  have hc : b * (E / b + 1) = b * (E / b) + b := Nat.mul_succ ..
  split
  · refine (Nat.div_eq_of_lt_le (by rw [Nat.mul_comm, hc]; lia) ?_)
    rw [Nat.mul_comm, Nat.mul_succ, hc]; lia
  · exact (Nat.div_eq_of_lt_le (by rw [Nat.mul_comm]; lia) (by rw [Nat.mul_comm, hc]; lia))
/-- where q * b ≤ y, told of y's quotient -/
theorem le_div {b : Nat} (hb : 1 < b) (q y : Nat) : q * b ≤ y ↔ q ≤ y / b := (Nat.le_div_iff_mul_le (by lia)).symm
theorem lt_div {b : Nat} (hb : 1 < b) (q y : Nat) : y < q * b + b ↔ y / b ≤ q := by
  rw [← Nat.succ_mul, ← Nat.lt_succ_iff]; exact (Nat.div_lt_iff_lt_mul (by lia)).symm
theorem one_add {p q r : Prop} [Decidable p] [Decidable q] [Decidable r] (h1 : ¬ (p ∧ q)) (h2 : r ↔ p ∨ q) : one p + one q = one r := by
  unfold one
  by_cases hp : p <;> by_cases hq : q <;> simp_all
/-- the low end's share -/
theorem low_part {b S y Q : Nat} (hb : 1 < b) (hQ : S / b ≤ Q) : one (S % b ≠ 0 ∧ S ≤ y ∧ y ≤ S / b * b + (b - 1)) + one ((S + b - 1) / b ≤ y / b ∧ y / b ≤ Q) = one (S ≤ y ∧ y / b ≤ Q) := by
  have hm := Nat.mod_lt S (show 0 < b by lia)
  have hd := Nat.div_add_mod' S b
  have h1 := le_div hb (S / b) y
  have h2 := lt_div hb (S / b) y
  rw [up_div hb]
  generalize y / b = qy at *
  generalize S / b * b = P at *
  generalize S / b = qs at *
  generalize S % b = r at *
  by_cases c0 : r = 0
  · rw [if_pos c0]
    have hS : P = S := by rw [← hd, c0]; rfl
    subst hS
    exact one_add (fun h => h.1.1 c0) ⟨fun h => .inr ⟨h1.1 h.1, h.2⟩, fun h => h.elim (fun h => absurd c0 h.1) fun h => ⟨h1.2 h.1, h.2⟩⟩
  · rw [if_neg c0]
    have k1 : y ≤ P + (b - 1) ↔ qy ≤ qs := by
      rw [← h2]; exact ⟨fun h => by lia, fun h => by lia⟩
    exact one_add (fun h => Nat.not_lt.mpr (k1.1 h.1.2.2) h.2.1) ⟨fun h => if hle : qy ≤ qs then .inl ⟨c0, h.1, k1.2 hle⟩ else .inr ⟨Nat.lt_of_not_le hle, h.2⟩,
      fun h => h.elim (fun h => ⟨h.2.1, Nat.le_trans (k1.1 h.2.2) hQ⟩) fun h => ⟨Nat.le_trans (by rw [← hd]; exact Nat.add_le_add_left (Nat.le_of_lt hm) P) (Nat.le_of_not_lt fun hl => Nat.not_lt.mpr (h2.1 hl) h.1), h.2⟩⟩
theorem high_part {b S E y : Nat} (hb : 1 < b) (hSq : S / b < (E + 1) / b) : one (E % b ≠ b - 1 ∧ E / b * b ≤ y ∧ y ≤ E) + one (S ≤ y ∧ y / b ≤ (E + 1) / b - 1) = one (S ≤ y ∧ y ≤ E) := by
  have hm := Nat.mod_lt E (show 0 < b by lia)
  have hd := Nat.div_add_mod' E b
  have h1 := le_div hb (E / b) y
  have h2 := lt_div hb (E / b) y
  have h3 := le_div hb (E / b) S
  rw [succ_div hb] at hSq ⊢
  generalize S / b = qs at *
  generalize y / b = qy at *
  generalize E / b * b = P at *
  generalize E / b = qe at *
  generalize E % b = r at *
  by_cases c0 : r = b - 1
  · rw [if_pos c0] at hSq ⊢
    have k1 : y ≤ E ↔ qy ≤ qe := by
      rw [← h2, ← hd, c0]; exact ⟨fun h => by lia, fun h => by lia⟩
    exact one_add (fun h => h.1.1 c0) ⟨fun h => .inr ⟨h.1, k1.1 h.2⟩, fun h => h.elim (fun h => absurd c0 h.1) fun h => ⟨h.1, k1.2 h.2⟩⟩
  · rw [if_neg c0] at hSq ⊢
    have k2 : qy ≤ qe - 1 ↔ ¬ P ≤ y := by
      rw [h1]; exact (Nat.le_sub_one_iff_lt (Nat.lt_of_le_of_lt (Nat.zero_le _) hSq)).trans Nat.not_le.symm
    have hSP : S < P := Nat.lt_of_not_le fun h => Nat.not_le.mpr hSq (h3.1 h)
    exact one_add (fun h => k2.1 h.2.2 h.1.2.1) ⟨fun h => if hp : P ≤ y then .inl ⟨c0, hp, h.2⟩ else .inr ⟨h.1, k2.2 hp⟩,
      fun h => h.elim (fun h => ⟨Nat.le_trans (Nat.le_of_lt hSP) h.2.1, h.2.2⟩) fun h => ⟨h.1, Nat.le_trans (Nat.le_of_lt (Nat.lt_of_not_le (k2.1 h.2))) (hd ▸ Nat.le_add_right P r)⟩⟩
theorem rws_cover {b : Nat} (hb : 1 < b) (x : Nat) : ∀ n k S E, S ≤ E → (rws b n k S E).countP (cov b x) = one (S ≤ x / b ^ k ∧ x / b ^ k ≤ E)
  | 0, k, S, E, _ => by
    by_cases h : S ≤ x / b ^ k ∧ x / b ^ k ≤ E <;> simp [rws, cov, one, h]
  | n + 1, k, S, E, hSE => by
    rw [rws]
    split
    · by_cases h : S ≤ x / b ^ k ∧ x / b ^ k ≤ E <;> simp [cov, one, h]
    · rename_i hlt
      rw [List.countP_append, List.countP_append, rws_cover hb x n (k + 1) _ _ (by lia)]
      have e : x / b ^ (k + 1) = x / b ^ k / b := by rw [Nat.pow_succ, Nat.div_div_eq_div_mul]
      rw [e]
      generalize hy : x / b ^ k = y
      have e1 : List.countP (cov b x) (if S % b = 0 then [] else [(S, S / b * b + (b - 1), k)]) = one (S % b ≠ 0 ∧ S ≤ y ∧ y ≤ S / b * b + (b - 1)) := by
        by_cases h0 : S % b = 0
        · simp [h0, one]
        · by_cases h1 : S ≤ y ∧ y ≤ S / b * b + (b - 1) <;> simp [h0, one, cov, hy, h1]
      have e2 : List.countP (cov b x) (if E % b = b - 1 then [] else [(E / b * b, E, k)]) = one (E % b ≠ b - 1 ∧ E / b * b ≤ y ∧ y ≤ E) := by
        by_cases h0 : E % b = b - 1
        · simp [h0, one]
        · by_cases h1 : E / b * b ≤ y ∧ y ≤ E <;> simp [h0, one, cov, hy, h1]
      rw [e1, e2]
      have hSq : S / b < (E + 1) / b := by
        have hqs : S / b ≤ (S + b - 1) / b := by rw [up_div hb]; split <;> lia
        lia
      have hl := low_part (S := S) (y := y) (Q := (E + 1) / b - 1) hb (by lia)
      have hu := high_part (y := y) hb hSq
      lia
end Pure2
section Pure3
/-- an automaton as plain data -/
structure Aut where
  arcs : Nat → List (Nat × Nat)
  fin : Nat → Bool
noncomputable def Aut.Acc (A : Aut) : Nat → List Nat → Prop
  | q, [] => A.fin q = true
  | q, c :: u => ∃ q', (c, q') ∈ A.arcs q ∧ A.Acc q' u
structure Aut.Good (A : Aut) : Prop where
  sorted : ∀ q, (A.arcs q).Pairwise fun a b => a.1 < b.1
  leaf : ∀ q, A.fin q = true → A.arcs q = []
  live : ∀ q a, a ∈ A.arcs q → ∃ u, A.Acc a.2 u
noncomputable def Aut.next (A : Aut) (q c : Nat) : Option Nat := ((A.arcs q).find? fun a => a.1 = c).map (·.2)
/-- the first arc whose label is at least lb -/
noncomputable def Aut.edge (A : Aut) (q lb : Nat) : Option (Nat × Nat) := (A.arcs q).find? fun a => decide (lb ≤ a.1)
noncomputable abbrev Entry := List Nat × Nat × Nat
noncomputable def Aut.Cand (A : Aut) (e : Entry) (x : List Nat) : Prop := ∃ c u q', x = e.1 ++ c :: u ∧ e.2.2 ≤ c ∧ (c, q') ∈ A.arcs e.2.1 ∧ A.Acc q' u
noncomputable def Aut.CandS (A : Aut) (st : List Entry) (x : List Nat) : Prop := ∃ e ∈ st, A.Cand e x
noncomputable def Aut.OrdS (A : Aut) (st : List Entry) : Prop := st.Pairwise fun e e' => ∀ x y, A.Cand e x → A.Cand e' y → x < y
noncomputable def IsLeast (P : List Nat → Prop) : Option (List Nat) → Prop
  | none => ∀ x, ¬ P x
  | some v => P v ∧ ∀ x, P x → ¬ x < v
theorem pre_lt : ∀ (p : List Nat) {a b : List Nat}, p ++ a < p ++ b ↔ a < b
  | [], _, _ => by simp
  | x :: p, a, b => by
    rw [List.cons_append, List.cons_append, List.cons_lt_cons_iff, pre_lt p]
    exact ⟨fun h => h.elim (fun h => absurd h (Nat.lt_irrefl _)) (·.2), fun h => .inr ⟨rfl, h⟩⟩
theorem lt_irr : ∀ (a : List Nat), ¬ a < a
  | [] => by simp
  | x :: a => by
    rw [List.cons_lt_cons_iff]
    exact fun h => h.elim (Nat.lt_irrefl _) fun h => lt_irr a h.2
theorem pw_key {as : List (Nat × Nat)} (h : as.Pairwise fun a b => a.1 < b.1) : ∀ {c q q'}, (c, q) ∈ as → (c, q') ∈ as → q = q' := by
  induction as with
  | nil => intro c q q' h1; cases h1
  | cons a as ih =>
    obtain ⟨h1, h2⟩ := List.pairwise_cons.mp h
    intro c q q' a1 a2
    rcases List.mem_cons.mp a1 with b1 | b1 <;> rcases List.mem_cons.mp a2 with b2 | b2
    · rw [← b2] at b1; exact (Prod.mk.inj b1).2
    · have := h1 _ b2; rw [← b1] at this; exact absurd this (Nat.lt_irrefl _)
    · have := h1 _ b1; rw [← b2] at this; exact absurd this (Nat.lt_irrefl _)
    · exact ih h2 b1 b2
theorem Aut.next_some {A : Aut} {q c q' : Nat} (h : A.next q c = some q') : (c, q') ∈ A.arcs q := by
  rw [Aut.next, Option.map_eq_some_iff] at h
  (revert h; refine x1_1 ?_; intro a; refine x0_2 ?_; intro h1 h2)
  have h3 := List.find?_some h1
  have h4 := List.mem_of_find?_eq_some h1
  simp at h3
  rw [← h3, ← h2]; exact h4
theorem Aut.next_none {A : Aut} {q c q' : Nat} (h : A.next q c = none) : (c, q') ∉ A.arcs q := by
  rw [Aut.next, Option.map_eq_none_iff, List.find?_eq_none] at h
  intro h1; have := h _ h1; simp at this
theorem edge_least : ∀ {as : List (Nat × Nat)} {lb : Nat} {a : Nat × Nat}, as.Pairwise (fun a b => a.1 < b.1) → as.find? (fun a => decide (lb ≤ a.1)) = some a → lb ≤ a.1 ∧ a ∈ as ∧ ∀ b ∈ as, lb ≤ b.1 → a = b ∨ a.1 < b.1
  | [], _, _, _, h => by simp at h
  | x :: as, lb, a, hp, h => by
    (refine feed (List.pairwise_cons.mp hp) ?_; refine x0_2 ?_; intro h1 h2)
    by_cases hx : lb ≤ x.1
    · simp [List.find?, hx] at h
      subst h
      refine ⟨hx, by simp, fun b hb _ => ?_⟩
      rcases List.mem_cons.mp hb with e | e
      · exact .inl e.symm
      · exact .inr (h1 _ e)
    · simp [List.find?, hx] at h
      (refine feed (edge_least h2 h) ?_; refine x0_3 ?_; intro a1 a2 a3)
      refine ⟨a1, List.mem_cons_of_mem _ a2, fun b hb hl => ?_⟩
      rcases List.mem_cons.mp hb with e | e
      · subst e; exact absurd hl hx
      · exact a3 b e hl
variable {A : Aut}
/-- a turn of the search: no arc -/
theorem turn_none {e : Entry} {st : List Entry} {ans : Option (List Nat)} (h : IsLeast (A.CandS (e :: st)) ans) (he : A.edge e.2.1 e.2.2 = none) : IsLeast (A.CandS st) ans := by
  have hno : ∀ x, ¬ A.Cand e x := by
    (intro x; refine x3_1 ?_; intro c u q'; refine x0_4 ?_; intro _ h2 h3 _)
    rw [Aut.edge, List.find?_eq_none] at he
    have := he _ h3; simp at this; lia
  have heq : ∀ x, A.CandS (e :: st) x ↔ A.CandS st x := by
    intro x
    constructor
    · (refine x1_1 ?_; intro e'; refine x0_2 ?_; intro h1 h2)
      rcases List.mem_cons.mp h1 with h | h
      · subst h; exact absurd h2 (hno _)
      · exact y1_1 e' (ya2 h h2)
    · (refine x1_1 ?_; intro e'; refine x0_2 ?_; intro h1 h2); exact y1_1 e' (ya2 (List.mem_cons_of_mem _ h1) h2)
  cases ans with
  | none => intro x hx; exact h x ((heq x).2 hx)
  | some v => exact ⟨(heq v).1 h.1, fun x hx => h.2 x ((heq x).2 hx)⟩
/-- a turn of the search: an arc; the answer lies under it -/
theorem turn_some (G : A.Good) {e : Entry} {st : List Entry} {ans : Option (List Nat)} {a : Nat × Nat} (h : IsLeast (A.CandS (e :: st)) ans) (ho : A.OrdS (e :: st)) (he : A.edge e.2.1 e.2.2 = some a) :
    ∃ u, ans = some (e.1 ++ a.1 :: u) ∧ A.Acc a.2 u ∧ ∀ u', A.Acc a.2 u' → ¬ u' < u := by
  (refine feed (edge_least (G.sorted _) he) ?_; refine x0_3 ?_; intro h1 h2 h3)
  (refine feed (G.live _ _ h2) ?_; refine x1_1 ?_; intro u₀ hu₀)
  have c₀ : A.Cand e (e.1 ++ a.1 :: u₀) := ⟨a.1, u₀, a.2, rfl, h1, h2, hu₀⟩
  have cs₀ : A.CandS (e :: st) (e.1 ++ a.1 :: u₀) := ⟨e, by simp, c₀⟩
  cases ans with
  | none => exact absurd cs₀ (h _)
  | some v =>
    (revert h; refine x0_2 ?_; refine x1_1 ?_; intro e'; refine x0_2 ?_; intro m1 hv; intro hmin)
    have hle := hmin _ cs₀
    rcases List.mem_cons.mp m1 with m | m
    · subst m
      (revert hv; refine x3_1 ?_; intro c u q'; refine x0_4 ?_; intro zz9; subst zz9; intro k1 k2 k3)
      rw [pre_lt, List.cons_lt_cons_iff] at hle
      rcases h3 _ k2 k1 with k | k
      · subst k
        refine y1_1 u (ya3 rfl k3 (fun u' hu' hlt => ?_))
        refine hmin (e'.1 ++ c :: u') ⟨e', by simp, c, u', q', rfl, k1, k2, hu'⟩ ?_
        rw [pre_lt, List.cons_lt_cons_iff]
        exact .inr ⟨rfl, hlt⟩
      · exact absurd (.inl k) hle
    · exact absurd ((List.pairwise_cons.mp ho).1 _ m _ _ c₀ hv) hle
theorem turn_fin (G : A.Good) {e : Entry} {st : List Entry} {ans : Option (List Nat)} {a : Nat × Nat} (h : IsLeast (A.CandS (e :: st)) ans) (ho : A.OrdS (e :: st)) (he : A.edge e.2.1 e.2.2 = some a) (hf : A.fin a.2 = true) : ans = some (e.1 ++ [a.1]) := by
  (refine feed (turn_some G h ho he) ?_; refine x1_1 ?_; intro u; refine x0_3 ?_; intro h1 h2 h3)
  cases u with
  | nil => exact h1
  | cons c u => (revert h2; refine x1_1 ?_; intro q'; refine x0_2 ?_; intro k _); rw [G.leaf _ hf] at k; cases k
theorem turn_push (G : A.Good) {e : Entry} {st : List Entry} {ans : Option (List Nat)} {a : Nat × Nat} (h : IsLeast (A.CandS (e :: st)) ans) (ho : A.OrdS (e :: st)) (he : A.edge e.2.1 e.2.2 = some a) (hf : A.fin a.2 = false) :
    IsLeast (A.CandS ((e.1 ++ [a.1], a.2, 0) :: st)) ans ∧ A.OrdS ((e.1 ++ [a.1], a.2, 0) :: st) := by
  (refine feed (edge_least (G.sorted _) he) ?_; refine x0_3 ?_; intro h1 h2 _)
  have hsub : ∀ x, A.Cand (e.1 ++ [a.1], a.2, 0) x → A.Cand e x := by
    (intro x; refine x3_1 ?_; intro c u q'; refine x0_4 ?_; intro zz9; subst zz9; intro k1 k2 k3)
    exact ⟨a.1, c :: u, a.2, by simp, h1, h2, q', k2, k3⟩
  have hsubS : ∀ x, A.CandS ((e.1 ++ [a.1], a.2, 0) :: st) x → A.CandS (e :: st) x := by
    (intro x; refine x1_1 ?_; intro e'; refine x0_2 ?_; intro m hc)
    rcases List.mem_cons.mp m with m | m
    · subst m; exact y1_1 e (ya2 (by simp) (hsub _ hc))
    · exact y1_1 e' (ya2 (List.mem_cons_of_mem _ m) hc)
  (refine feed (List.pairwise_cons.mp ho) ?_; refine x0_2 ?_; intro o1 o2)
  refine ⟨?_, List.pairwise_cons.mpr ⟨fun e' m x y hx hy => o1 e' m x y (hsub x hx) hy, o2⟩⟩
  (refine feed (turn_some G h ho he) ?_; refine x1_1 ?_; intro u; refine x0_3 ?_; intro zz9; subst zz9; intro k1 k2)
  refine ⟨?_, fun x hx => h.2 x (hsubS x hx)⟩
  cases u with
  | nil => rw [show A.Acc a.2 [] = (A.fin a.2 = true) from rfl, hf] at k1; cases k1
  | cons c u =>
    (revert k1; refine x1_1 ?_; intro q'; refine x0_2 ?_; intro b1 b2)
    exact ⟨_, List.mem_cons_self .., c, u, q', by simp, Nat.zero_le _, b1, b2⟩
end Pure3
section Pure4
variable {A : Aut}
/-- what the walk along the string must still find: behind the prefix p at the state q, at least rest, or in the stack -/
noncomputable def Aut.Want (A : Aut) (st : List Entry) (p : List Nat) (q : Option Nat) (rest : List Nat) (x : List Nat) : Prop :=
  A.CandS st x ∨ ∃ q' t, q = some q' ∧ x = p ++ t ∧ A.Acc q' t ∧ ¬ t < rest
noncomputable def Aut.Below (A : Aut) (st : List Entry) (p : List Nat) : Prop := ∀ y, A.CandS st y → ∀ t, p ++ t < y
theorem isLeast_congr {P Q : List Nat → Prop} (h : ∀ x, P x ↔ Q x) {a : Option (List Nat)} (hp : IsLeast P a) : IsLeast Q a := by
  cases a with
  | none => exact fun x hx => hp x ((h x).2 hx)
  | some v => exact ⟨(h v).1 hp.1, fun x hx => hp.2 x ((h x).2 hx)⟩
/-- a turn of the walk along the string -/
theorem walk_step (G : A.Good) {st : List Entry} {p : List Nat} {q c : Nat} {rest : List Nat} (ho : A.OrdS st) (hb : A.Below st p) :
    (∀ x, A.Want st p (some q) (c :: rest) x ↔ A.Want ((p, q, c + 1) :: st) (p ++ [c]) (A.next q c) rest x) ∧ A.OrdS ((p, q, c + 1) :: st) ∧ A.Below ((p, q, c + 1) :: st) (p ++ [c]) := by
  refine ⟨fun x => ?_, ?_, ?_⟩
  · constructor
    · rintro (⟨e, h1, h2⟩ | ⟨q', t, h1, rfl, h3, h4⟩)
      · exact .inl ⟨e, List.mem_cons_of_mem _ h1, h2⟩
      · obtain rfl : q = q' := Option.some.inj h1
        cases t with
        | nil => exact absurd (List.nil_lt_cons _ _) h4
        | cons d u =>
          (revert h3; refine x1_1 ?_; intro q'; refine x0_2 ?_; intro k1 k2)
          rw [List.cons_lt_cons_iff] at h4
          rcases Nat.lt_trichotomy c d with h | h | h
          · exact .inl ⟨_, List.mem_cons_self .., d, u, q', rfl, h, k1, k2⟩
          · subst h
            refine .inr ?_
            cases hn : A.next q c with
            | none => exact absurd k1 (Aut.next_none hn)
            | some q'' =>
              have := pw_key (G.sorted q) k1 (Aut.next_some hn)
              subst this
              exact y2_1 _ u (ya4 rfl (by simp) k2 (fun h => h4 (.inr ⟨rfl, h⟩)))
          · exact absurd (.inl h) h4
    · rintro (⟨e, h1, h2⟩ | ⟨q', t, h1, rfl, h3, h4⟩)
      · rcases List.mem_cons.mp h1 with m | m
        · subst m
          (revert h2; refine x3_1 ?_; intro d u q'; refine x0_4 ?_; intro zz9; subst zz9; intro k0 k1 k2)
          refine .inr ⟨q, d :: u, rfl, rfl, ⟨q', k1, k2⟩, ?_⟩
          rw [List.cons_lt_cons_iff]
          have k0' : c + 1 ≤ d := k0
          lia
        · exact .inl ⟨e, m, h2⟩
      · refine .inr ⟨q, c :: t, rfl, by simp, ⟨q', Aut.next_some h1, h3⟩, ?_⟩
        rw [List.cons_lt_cons_iff]
        exact fun h => h.elim (Nat.lt_irrefl _) fun h => h4 h.2
  · refine List.pairwise_cons.mpr ⟨fun e' m x y hx hy => ?_, ho⟩
    (revert hx; refine x3_1 ?_; intro d u q'; refine x0_2 ?_; intro zz9; subst zz9; intro _)
    exact hb y ⟨e', m, hy⟩ _
  · (intro y; refine x1_1 ?_; intro e; refine x0_2 ?_; intro h1 h2; intro t)
    rcases List.mem_cons.mp h1 with m | m
    · subst m
      (revert h2; refine x3_1 ?_; intro d u q'; refine x0_4 ?_; intro zz9; subst zz9; intro k0 k1 k2)
      rw [List.append_assoc, pre_lt]
      show c :: t < d :: u
      rw [List.cons_lt_cons_iff]
      exact .inl k0
    · rw [List.append_assoc]; exact hb y ⟨e, m, h2⟩ _
/-- the walk's end without a break: the last entry -/
theorem walk_end {st : List Entry} {p : List Nat} {q : Nat} (ho : A.OrdS st) (hb : A.Below st p) :
    (∀ x, A.Want st p (some q) [] x ↔ (x = p ∧ A.fin q = true) ∨ A.CandS ((p, q, 0) :: st) x) ∧ A.OrdS ((p, q, 0) :: st) := by
  refine ⟨fun x => ?_, ?_⟩
  · constructor
    · rintro (⟨e, h1, h2⟩ | ⟨q', t, h1, rfl, h3, h4⟩)
      · exact .inr ⟨e, List.mem_cons_of_mem _ h1, h2⟩
      · obtain rfl : q = q' := Option.some.inj h1
        cases t with
        | nil => exact .inl ⟨by simp, h3⟩
        | cons d u => (revert h3; refine x1_1 ?_; intro q'; refine x0_2 ?_; intro k1 k2); exact .inr ⟨_, List.mem_cons_self .., d, u, q', rfl, Nat.zero_le _, k1, k2⟩
    · rintro (⟨rfl, h⟩ | ⟨e, h1, h2⟩)
      · exact .inr ⟨q, [], rfl, by simp, h, by simp⟩
      · rcases List.mem_cons.mp h1 with m | m
        · subst m
          (revert h2; refine x3_1 ?_; intro d u q'; refine x0_4 ?_; intro zz9; subst zz9; intro k0 k1 k2)
          exact .inr ⟨q, d :: u, rfl, rfl, ⟨q', k1, k2⟩, by simp⟩
        · exact .inl ⟨e, m, h2⟩
  · refine List.pairwise_cons.mpr ⟨fun e' m x y hx hy => ?_, ho⟩
    (revert hx; refine x3_1 ?_; intro d u q'; refine x0_2 ?_; intro zz9; subst zz9; intro _)
    exact hb y ⟨e', m, hy⟩ _
/-- the walk's end by a break: no state -/
theorem walk_break {st : List Entry} {p : List Nat} {rest : List Nat} (x : List Nat) : A.Want st p none rest x ↔ A.CandS st x := by
  constructor
  · rintro (h | ⟨_, _, h, _⟩)
    · exact h
    · cases h
  · exact .inl
/-- the string itself is accepted -/
theorem walk_self {P : List Nat → Prop} {s : List Nat} (hp : P s) (hmin : ∀ x, P x → ¬ x < s) : IsLeast P (some s) := ⟨hp, hmin⟩
theorem isLeast_unique {P : List Nat → Prop} {a b : Option (List Nat)} (ha : IsLeast P a) (hb : IsLeast P b) : a = b := by
  cases a with
  | none =>
    cases b with
    | none => rfl
    | some v => exact absurd hb.1 (ha v)
  | some u =>
    cases b with
    | none => exact absurd ha.1 (hb u)
    | some v =>
      have h1 := ha.2 v hb.1
      have h2 := hb.2 u ha.1
      exact congrArg some (List.le_antisymm h1 h2)
end Pure4
section Pure5
theorem lt_snoc0 : ∀ {t x : List Nat}, ¬ x < t ++ [0] ↔ t < x
  | [], [] => by simp
  | [], c :: u => by simp [List.cons_lt_cons_iff]
  | d :: t, [] => by simp
  | d :: t, c :: u => by
    rw [List.cons_append, List.cons_lt_cons_iff, List.cons_lt_cons_iff, ← lt_snoc0 (t := t) (x := u)]
    by_cases h : u < t ++ [0] <;> simp [h] <;> lia
theorem lt_tr {a b c : List Nat} (h : a < b) (h' : b < c) : a < c := List.lt_trans h h'
/-- the terms that are still ahead: the first one is the least -/
theorem least_head {ts rem : List (List Nat)} {s : List Nat} (hp : rem.Pairwise (· < ·)) (hr : ∀ x, x ∈ rem ↔ x ∈ ts ∧ ¬ x < s) : IsLeast (fun x => x ∈ ts ∧ ¬ x < s) rem.head? := by
  cases rem with
  | nil => intro x hx; have := (hr x).2 hx; cases this
  | cons t rem =>
    refine ⟨(hr t).1 (by simp), fun x hx hlt => ?_⟩
    rcases List.mem_cons.mp ((hr x).2 hx) with e | e
    · subst e; exact lt_irr _ hlt
    · exact lt_irr _ (lt_tr hlt ((List.pairwise_cons.mp hp).1 x e))
theorem filter_rem {ts : List (List Nat)} (hp : ts.Pairwise (· < ·)) (s : List Nat) : (ts.filter fun x => decide (¬ x < s)).Pairwise (· < ·) ∧ ∀ x, x ∈ (ts.filter fun x => decide (¬ x < s)) ↔ x ∈ ts ∧ ¬ x < s :=
  ⟨hp.filter _, fun x => by simp⟩
end Pure5
section Pure6
/-- the builder's automaton so far, with the table of seen nodes -/
structure Bld where
  T : Nat → List (Nat × Nat)
  F : Nat → Bool
  seen : List ((List (Nat × Nat) × Bool) × Nat)
noncomputable def Bld.aut (b : Bld) : Aut := ⟨b.T, b.F⟩
noncomputable def Bld.Reg (b : Bld) (q : Nat) : Prop := ∃ k, (k, q) ∈ b.seen
structure Bld.Ok (b : Bld) (N : Nat) : Prop where
  reg : ∀ k q, (k, q) ∈ b.seen → b.T q = k.1 ∧ b.F q = k.2
  tgt : ∀ k q, (k, q) ∈ b.seen → ∀ a ∈ k.1, b.Reg a.2
  asc : ∀ k q, (k, q) ∈ b.seen → k.1.Pairwise fun a b => a.1 < b.1
  leaf : ∀ k q, (k, q) ∈ b.seen → k.2 = true → k.1 = []
  live : ∀ q, b.Reg q → ∃ u, b.aut.Acc q u
  short : ∀ q, b.Reg q → ∀ u, b.aut.Acc q u → u.length < N
  unreg : ∀ q, ¬ b.Reg q → b.T q = [] ∧ b.F q = false
theorem Bld.Ok.good {b : Bld} {N : Nat} (h : b.Ok N) : b.aut.Good := by
  have key : ∀ q, (b.T q).Pairwise (fun a b => a.1 < b.1) ∧ (b.F q = true → b.T q = []) ∧ ∀ a ∈ b.T q, b.Reg a.2 := by
    intro q
    by_cases hq : b.Reg q
    · (revert hq; refine x1_1 ?_; intro k hk)
      (refine feed (h.reg k q hk) ?_; refine x0_2 ?_; intro e1 e2)
      rw [e1, e2]
      exact ⟨h.asc k q hk, h.leaf k q hk, h.tgt k q hk⟩
    · (refine feed (h.unreg q hq) ?_; refine x0_2 ?_; intro e1 e2)
      rw [e1, e2]
      exact ⟨.nil, fun x => (by cases x), fun a m => (by cases m)⟩
  exact ⟨fun q => (key q).1, fun q => (key q).2.1, fun q a m => h.live _ ((key q).2.2 a m)⟩
/-- a new state is laid in: what the old ones accept stays -/
noncomputable def Bld.add (b : Bld) (n : Nat) (as : List (Nat × Nat)) (f : Bool) : Bld :=
  ⟨fun q => if q = n then as else b.T q, fun q => if q = n then f else b.F q, b.seen ++ [((as, f), n)]⟩
theorem Bld.add_acc {b : Bld} {N n : Nat} {as : List (Nat × Nat)} {f : Bool} (h : b.Ok N) (hn : ¬ b.Reg n) : ∀ u q, b.Reg q → ((b.add n as f).aut.Acc q u ↔ b.aut.Acc q u)
  | [], q, hq => by
    have e : q ≠ n := fun e => hn (e ▸ hq)
    show (if q = n then f else b.F q) = true ↔ b.F q = true
    rw [if_neg e]
  | c :: u, q, hq => by
    have e : q ≠ n := fun e => hn (e ▸ hq)
    show (∃ q', (c, q') ∈ (if q = n then as else b.T q) ∧ _) ↔ ∃ q', (c, q') ∈ b.T q ∧ _
    rw [if_neg e]
    (revert hq; refine x1_1 ?_; intro k hk)
    have ht := h.tgt k q hk
    rw [← (h.reg k q hk).1] at ht
    constructor
    · (refine x1_1 ?_; intro q'; refine x0_2 ?_; intro m a); exact y1_1 q' (ya2 m ((Bld.add_acc h hn u q' (ht _ m)).1 a))
    · (refine x1_1 ?_; intro q'; refine x0_2 ?_; intro m a); exact y1_1 q' (ya2 m ((Bld.add_acc h hn u q' (ht _ m)).2 a))
/-- what a node with these arcs accepts -/
noncomputable def Bld.Lang (b : Bld) (as : List (Nat × Nat)) (f : Bool) : List Nat → Prop
  | [] => f = true
  | c :: u => ∃ q, (c, q) ∈ as ∧ b.aut.Acc q u
theorem Bld.Ok.lang {b : Bld} {N : Nat} (h : b.Ok N) {as : List (Nat × Nat)} {f : Bool} {q : Nat} (hk : ((as, f), q) ∈ b.seen) : ∀ u, b.aut.Acc q u ↔ b.Lang as f u := by
  (refine feed (h.reg _ _ hk) ?_; refine x0_2 ?_; intro e1 e2)
  intro u
  cases u with
  | nil => show b.F q = true ↔ f = true; rw [e2]
  | cons c u => show (∃ q', (c, q') ∈ b.T q ∧ _) ↔ _; rw [e1]; exact Iff.rfl
theorem Bld.add_reg {b : Bld} {n q : Nat} {as : List (Nat × Nat)} {f : Bool} : (b.add n as f).Reg q ↔ b.Reg q ∨ q = n := by
  constructor
  · (refine x1_1 ?_; intro k m)
    rcases List.mem_append.mp m with m | m
    · exact .inl ⟨k, m⟩
    · simp at m; exact .inr m.2
  · rintro (⟨k, m⟩ | rfl)
    · exact y1_1 k (List.mem_append_left _ m)
    · exact y1_1 (as, f) (List.mem_append_right _ (by simp))
theorem Bld.add_lang {b : Bld} {N n : Nat} {as : List (Nat × Nat)} {f : Bool} (h : b.Ok N) (hn : ¬ b.Reg n) (ht : ∀ a ∈ as, b.Reg a.2) : ∀ u, (b.add n as f).aut.Acc n u ↔ b.Lang as f u := by
  intro u
  cases u with
  | nil => show (if n = n then f else b.F n) = true ↔ f = true; rw [if_pos rfl]
  | cons c u =>
    show (∃ q', (c, q') ∈ (if n = n then as else b.T n) ∧ _) ↔ ∃ q, (c, q) ∈ as ∧ _
    rw [if_pos rfl]
    constructor
    · (refine x1_1 ?_; intro q'; refine x0_2 ?_; intro m a); exact y1_1 q' (ya2 m ((Bld.add_acc h hn u q' (ht _ m)).1 a))
    · (refine x1_1 ?_; intro q'; refine x0_2 ?_; intro m a); exact y1_1 q' (ya2 m ((Bld.add_acc h hn u q' (ht _ m)).2 a))
theorem Bld.Ok.add {b : Bld} {N n : Nat} {as : List (Nat × Nat)} {f : Bool} (h : b.Ok N) (hn : ¬ b.Reg n) (ht : ∀ a ∈ as, b.Reg a.2) (ha : as.Pairwise fun a b => a.1 < b.1) (hl : f = true → as = [])
    (hlive : ∃ u, b.Lang as f u) (hs : ∀ u, b.Lang as f u → u.length < N) : (b.add n as f).Ok N := by
  refine ⟨?_, ?_, ?_, ?_, ?_, ?_, ?_⟩
  · intro k q m
    rcases List.mem_append.mp m with m | m
    · have e : q ≠ n := fun e => hn (e ▸ ⟨k, m⟩)
      show (if q = n then as else b.T q) = _ ∧ (if q = n then f else b.F q) = _
      rw [if_neg e, if_neg e]; exact h.reg k q m
    · simp at m
      (revert m; refine x0_2 ?_; intro zz9; subst zz9; intro zz9; subst zz9)
      show (if q = q then as else b.T q) = _ ∧ (if q = q then f else b.F q) = _
      simp
  · intro k q m a ma
    rcases List.mem_append.mp m with m | m
    · exact Bld.add_reg.2 (.inl (h.tgt k q m a ma))
    · simp at m
      (revert m; refine x0_2 ?_; intro zz9; subst zz9; intro zz9; subst zz9)
      exact Bld.add_reg.2 (.inl (ht a ma))
  · intro k q m
    rcases List.mem_append.mp m with m | m
    · exact h.asc k q m
    · simp at m; (revert m; refine x0_2 ?_; intro zz9; subst zz9; intro zz9; subst zz9); exact ha
  · intro k q m
    rcases List.mem_append.mp m with m | m
    · exact h.leaf k q m
    · simp at m; (revert m; refine x0_2 ?_; intro zz9; subst zz9; intro zz9; subst zz9); exact hl
  · intro q hq
    rcases Bld.add_reg.1 hq with hq | rfl
    · (refine feed (h.live q hq) ?_; refine x1_1 ?_; intro u hu); exact y1_1 u ((Bld.add_acc h hn u q hq).2 hu)
    · (revert hlive; refine x1_1 ?_; intro u hu); exact y1_1 u ((Bld.add_lang h hn ht u).2 hu)
  · intro q hq u hu
    rcases Bld.add_reg.1 hq with hq | rfl
    · exact h.short q hq u ((Bld.add_acc h hn u q hq).1 hu)
    · exact hs u ((Bld.add_lang h hn ht u).1 hu)
  · intro q hq
    have h1 : ¬ b.Reg q := fun x => hq (Bld.add_reg.2 (.inl x))
    have h2 : q ≠ n := fun x => hq (Bld.add_reg.2 (.inr x))
    show (if q = n then as else b.T q) = _ ∧ (if q = n then f else b.F q) = _
    rw [if_neg h2, if_neg h2]; exact h.unreg q h1
end Pure6
section Pure7
/-- a node that is still open -/
structure Nd where
  n : Nat
  arcs : List (Nat × Nat)
  fin : Bool
/-- what an open node accepts by its closed arcs -/
noncomputable def Bld.LangR (b : Bld) (nd : Nd) (u : List Nat) : Prop := (u = [] ∧ nd.fin = true) ∨ ∃ d q u', u = d :: u' ∧ (d, q) ∈ nd.arcs ∧ b.Reg q ∧ b.aut.Acc q u'
/-- the words so far: open nodes (top first), labels (the top's first) -/
noncomputable def Bld.Words (b : Bld) : List Nd → List Nat → List Nat → Prop
  | nd :: rest, c :: cs, x => (∃ u, x = (c :: cs).reverse ++ u ∧ b.LangR nd u) ∨ b.Words rest cs x
  | nd :: _, [], x => b.LangR nd x
  | [], _, _ => False
/-- an open node and the arc to the one above it -/
noncomputable def Bld.NdOk (b : Bld) (nd : Nd) (pd : List (Nat × Nat)) : Prop :=
  ¬ b.Reg nd.n ∧ (∃ cl, nd.arcs = cl ++ pd ∧ ∀ a ∈ cl, b.Reg a.2) ∧ (nd.arcs.Pairwise fun a b => a.1 < b.1) ∧ (nd.fin = true → nd.arcs = [])
noncomputable def Bld.POk (b : Bld) : List Nd → List Nat → List (Nat × Nat) → Prop
  | nd :: rest, c :: cs, pd => b.NdOk nd pd ∧ b.POk rest cs [(c, nd.n)]
  | [nd], [], pd => b.NdOk nd pd
  | _, _, _ => False
theorem Bld.LangR_lang {b : Bld} {nd : Nd} (h : ∀ a ∈ nd.arcs, b.Reg a.2) (u : List Nat) : b.LangR nd u ↔ b.Lang nd.arcs nd.fin u := by
  cases u with
  | nil =>
    show _ ↔ nd.fin = true
    constructor
    · rintro (⟨_, h⟩ | ⟨_, _, _, h, _⟩)
      · exact h
      · cases h
    · exact fun h => .inl ⟨rfl, h⟩
  | cons c u =>
    show _ ↔ ∃ q, (c, q) ∈ nd.arcs ∧ b.aut.Acc q u
    constructor
    · rintro (⟨h, _⟩ | ⟨d, q, u', e, h1, h2, h3⟩)
      · cases h
      · (refine feed (List.cons.inj e) ?_; refine x0_2 ?_; intro zz9; subst zz9; intro zz9; subst zz9); exact y1_1 q (ya2 h1 h3)
    · (refine x1_1 ?_; intro q; refine x0_2 ?_; intro h1 h2); exact .inr ⟨c, q, u, rfl, h1, h _ h1, h2⟩
/-- the parent when its top is closed: its last arc leads to this -/
theorem Bld.LangR_close {b : Bld} {par : Nd} {cl : List (Nat × Nat)} {c t q : Nat} {asTop : List (Nat × Nat)} {f : Bool} (he : par.arcs = cl ++ [(c, t)]) (ht : ¬ b.Reg t) (hq : b.Reg q)
    (hl : ∀ u, b.aut.Acc q u ↔ b.Lang asTop f u) (x : List Nat) : b.LangR ⟨par.n, cl ++ [(c, q)], par.fin⟩ x ↔ (∃ u, x = c :: u ∧ b.Lang asTop f u) ∨ b.LangR par x := by
  constructor
  · rintro (⟨h1, h2⟩ | ⟨d, q', u', rfl, h1, h2, h3⟩)
    · exact .inr (.inl ⟨h1, h2⟩)
    · rcases List.mem_append.mp h1 with m | m
      · exact .inr (.inr ⟨d, q', u', rfl, by rw [he]; exact List.mem_append_left _ m, h2, h3⟩)
      · simp at m
        (revert m; refine x0_2 ?_; intro zz9; subst zz9; intro zz9; subst zz9)
        exact .inl ⟨u', rfl, (hl u').1 h3⟩
  · rintro (⟨u, rfl, h⟩ | h1 | ⟨d, q', u', rfl, h1, h2, h3⟩)
    · exact .inr ⟨c, q, u, rfl, List.mem_append_right _ (by simp), hq, (hl u).2 h⟩
    · exact .inl h1
    · rw [he] at h1
      rcases List.mem_append.mp h1 with m | m
      · exact .inr ⟨d, q', u', rfl, List.mem_append_left _ m, h2, h3⟩
      · simp at m
        (revert m; refine x0_2 ?_; intro zz9; subst zz9; intro zz9; subst zz9)
        exact absurd h2 ht
/-- a turn of add_suffix keeps the words (a node like it was seen) -/
theorem Bld.words_hit {b : Bld} {N : Nat} {top par : Nd} {rest : List Nd} {c q : Nat} {cs : List Nat} {cl : List (Nat × Nat)} (ok : b.Ok N) (he : par.arcs = cl ++ [(c, top.n)]) (ht : ¬ b.Reg top.n)
    (hr : ∀ a ∈ top.arcs, b.Reg a.2) (hq : ((top.arcs, top.fin), q) ∈ b.seen) (x : List Nat) : b.Words (top :: par :: rest) (c :: cs) x ↔ b.Words (⟨par.n, cl ++ [(c, q)], par.fin⟩ :: rest) cs x := by
  have hR : b.Reg q := ⟨_, hq⟩
  have key := Bld.LangR_close (f := top.fin) he ht hR (ok.lang hq)
  cases cs with
  | nil =>
    show (∃ u, x = [c].reverse ++ u ∧ b.LangR top u) ∨ b.LangR par x ↔ b.LangR ⟨par.n, cl ++ [(c, q)], par.fin⟩ x
    rw [key]
    simp [Bld.LangR_lang hr]
  | cons d cs =>
    show (∃ u, x = (c :: d :: cs).reverse ++ u ∧ b.LangR top u) ∨ ((∃ u, x = (d :: cs).reverse ++ u ∧ b.LangR par u) ∨ b.Words rest cs x) ↔ (∃ u, x = (d :: cs).reverse ++ u ∧ b.LangR ⟨par.n, cl ++ [(c, q)], par.fin⟩ u) ∨ b.Words rest cs x
    constructor
    · rintro (⟨u, rfl, h⟩ | ⟨u, rfl, h⟩ | h)
      · exact .inl ⟨c :: u, by simp, (key _).2 (.inl ⟨u, rfl, (Bld.LangR_lang hr u).1 h⟩)⟩
      · exact .inl ⟨u, rfl, (key _).2 (.inr h)⟩
      · exact .inr h
    · rintro (⟨u, rfl, h⟩ | h)
      · rcases (key _).1 h with ⟨v, rfl, h'⟩ | h'
        · exact .inl ⟨v, by simp, (Bld.LangR_lang hr v).2 h'⟩
        · exact .inr (.inl ⟨u, rfl, h'⟩)
      · exact .inr (.inr h)
end Pure7
section Pure8
/-- a new state changes nothing for a node that has no arc to it -/
theorem Bld.LangR_add {b : Bld} {N n : Nat} {as : List (Nat × Nat)} {f : Bool} {nd : Nd} (ok : b.Ok N) (hn : ¬ b.Reg n) (ha : ∀ a ∈ nd.arcs, a.2 ≠ n) (u : List Nat) : (b.add n as f).LangR nd u ↔ b.LangR nd u := by
  constructor
  · rintro (h | ⟨d, q, u', rfl, h1, h2, h3⟩)
    · exact .inl h
    · rcases Bld.add_reg.1 h2 with h | h
      · exact .inr ⟨d, q, u', rfl, h1, h, (Bld.add_acc ok hn u' q h).1 h3⟩
      · exact absurd h (ha _ h1)
  · rintro (h | ⟨d, q, u', rfl, h1, h2, h3⟩)
    · exact .inl h
    · exact .inr ⟨d, q, u', rfl, h1, Bld.add_reg.2 (.inl h2), (Bld.add_acc ok hn u' q h2).2 h3⟩
theorem Bld.Words_add {b : Bld} {N n : Nat} {as : List (Nat × Nat)} {f : Bool} (ok : b.Ok N) (hn : ¬ b.Reg n) : ∀ (rp : List Nd) (rl : List Nat) (x : List Nat), (∀ nd ∈ rp, ∀ a ∈ nd.arcs, a.2 ≠ n) → ((b.add n as f).Words rp rl x ↔ b.Words rp rl x)
  | [], _, _, _ => Iff.rfl
  | nd :: rest, [], x, h => Bld.LangR_add ok hn (h nd (by simp)) x
  | nd :: rest, c :: cs, x, h => by
    show (∃ u, x = (c :: cs).reverse ++ u ∧ (b.add n as f).LangR nd u) ∨ (b.add n as f).Words rest cs x ↔ (∃ u, x = (c :: cs).reverse ++ u ∧ b.LangR nd u) ∨ b.Words rest cs x
    rw [Bld.Words_add ok hn rest cs x (fun nd' m => h nd' (List.mem_cons_of_mem _ m))]
    simp only [Bld.LangR_add ok hn (h nd (by simp))]
/-- a turn of add_suffix keeps the words (the node is new) -/
theorem Bld.words_miss {b : Bld} {N : Nat} {top par : Nd} {rest : List Nd} {c : Nat} {cs : List Nat} {cl : List (Nat × Nat)} (ok : b.Ok N) (he : par.arcs = cl ++ [(c, top.n)]) (hcl : ∀ a ∈ cl, b.Reg a.2) (ht : ¬ b.Reg top.n)
    (hr : ∀ a ∈ top.arcs, b.Reg a.2) (hrest : ∀ nd ∈ rest, ∀ a ∈ nd.arcs, a.2 ≠ top.n) (x : List Nat) : b.Words (top :: par :: rest) (c :: cs) x ↔ (b.add top.n top.arcs top.fin).Words (par :: rest) cs x := by
  have key : ∀ y, (b.add top.n top.arcs top.fin).LangR par y ↔ (∃ u, y = c :: u ∧ b.Lang top.arcs top.fin u) ∨ b.LangR par y := by
    intro y
    constructor
    · rintro (h | ⟨d, q, u', rfl, h1, h2, h3⟩)
      · exact .inr (.inl h)
      · by_cases e : q = top.n
        · subst e
          rw [he] at h1
          rcases List.mem_append.mp h1 with m | m
          · exact absurd (hcl _ m) ht
          · simp at m; subst m
            exact .inl ⟨u', rfl, (Bld.add_lang ok ht hr u').1 h3⟩
        · rcases Bld.add_reg.1 h2 with h | h
          · exact .inr (.inr ⟨d, q, u', rfl, h1, h, (Bld.add_acc ok ht u' q h).1 h3⟩)
          · exact absurd h e
    · rintro (⟨u, rfl, h⟩ | h | ⟨d, q, u', rfl, h1, h2, h3⟩)
      · exact .inr ⟨c, top.n, u, rfl, by rw [he]; simp, Bld.add_reg.2 (.inr rfl), (Bld.add_lang ok ht hr u).2 h⟩
      · exact .inl h
      · exact .inr ⟨d, q, u', rfl, h1, Bld.add_reg.2 (.inl h2), (Bld.add_acc ok ht u' q h2).2 h3⟩
  cases cs with
  | nil =>
    show (∃ u, x = [c].reverse ++ u ∧ b.LangR top u) ∨ b.LangR par x ↔ (b.add top.n top.arcs top.fin).LangR par x
    rw [key]
    simp [Bld.LangR_lang hr]
  | cons d cs =>
    show (∃ u, x = (c :: d :: cs).reverse ++ u ∧ b.LangR top u) ∨ ((∃ u, x = (d :: cs).reverse ++ u ∧ b.LangR par u) ∨ b.Words rest cs x) ↔ (∃ u, x = (d :: cs).reverse ++ u ∧ (b.add top.n top.arcs top.fin).LangR par u) ∨ (b.add top.n top.arcs top.fin).Words rest cs x
    rw [Bld.Words_add ok ht rest cs x hrest]
    constructor
    · rintro (⟨u, rfl, h⟩ | ⟨u, rfl, h⟩ | h)
      · exact .inl ⟨c :: u, by simp, (key _).2 (.inl ⟨u, rfl, (Bld.LangR_lang hr u).1 h⟩)⟩
      · exact .inl ⟨u, rfl, (key _).2 (.inr h)⟩
      · exact .inr h
    · rintro (⟨u, rfl, h⟩ | h)
      · rcases (key _).1 h with ⟨v, rfl, h'⟩ | h'
        · exact .inl ⟨v, by simp, (Bld.LangR_lang hr v).2 h'⟩
        · exact .inr (.inl ⟨u, rfl, h'⟩)
      · exact .inr (.inr h)
end Pure8
section For
noncomputable def del (a : Addr) (l : Led) : Led := l.filter fun p => p.1 != a
theorem mem_del_of {a b : Addr} {x : Obj} {l : Led} (h : (b, x) ∈ l) (hn : b ≠ a) : (b, x) ∈ del a l := List.mem_filter.mpr ⟨h, by simpa using hn⟩
theorem mem_of_del {a : Addr} {p : Addr × Obj} {l : Led} (h : p ∈ del a l) : p ∈ l ∧ p.1 ≠ a := ⟨(List.mem_filter.mp h).1, by simpa using (List.mem_filter.mp h).2⟩
/-- all of the heap stands, but what lies at d -/
theorem led_but {h₀ h h' : Heap} {L d : Addr} {m : Str → Option Value} {l : Led} {o : Obj} (F : Fr h₀ L h m) (N : News h₀ L h l) (hm : (d, o) ∈ l) (hs : ∀ b x, b ≠ d → h.get? b = some x → h'.get? b = some x) :
    Fr h₀ L h' m ∧ News h₀ L h' (del d l) := by
  (refine feed (N _ hm) ?_; refine x0_3 ?_; intro e1 e2 e3)
  refine ⟨⟨F.ns.at' fun o e => hs _ o (Ne.symm e2) e, fun b x e => hs b x (fun q => ?_) (F.keep b x e), F.above⟩, fun p hp => ?_⟩
  · rw [q] at e; rw [e] at e3; cases e3
  · (refine feed (mem_of_del hp) ?_; refine x0_2 ?_; intro h1 h2)
    exact ⟨hs _ _ h2 (N p h1).1, (N p h1).2⟩
theorem led_at {h₀ h h' : Heap} {L d : Addr} {m : Str → Option Value} {l : Led} {o o' : Obj} (F : Fr h₀ L h m) (N : News h₀ L h l) (hm : (d, o) ∈ l) (hs : ∀ b x, b ≠ d → h.get? b = some x → h'.get? b = some x) (ho : h'.get? d = some o') :
    Fr h₀ L h' m ∧ News h₀ L h' (put d o' l) := by
  (refine feed (led_but F N hm hs) ?_; refine x0_2 ?_; intro F' N')
  refine ⟨F', fun p hp => ?_⟩
  rcases List.mem_cons.mp hp with rfl | hp
  · exact ⟨ho, (N _ hm).2⟩
  · exact N' p hp
section
variable {w : World} {A A₀ : Around} {base : Heap} {outer : List Env} {E : Value → Shared → Prop} {Q : Flow → Shared → Prop} {s : Shared} {env : Env} {g : Heap} {α : Type}
theorem For_S {target : Expr} {it : Value} {body orelse : List Stmt} {m₀ : Str → Option Value} {nw : Led} (names : α → List (Str × Value)) (loose : Str → Prop) (J : Nat → α → Led → Prop) (st₀ : α) (n₀ : Nat)
    (T : TurnS A₀ base outer g g) (F : Fr g env.locals s.heap m₀) (N : News g env.locals s.heap nw) (hm0 : ∀ p ∈ names st₀, m₀ p.1 = some p.2) (hJ : J n₀ st₀ nw)
    (turn : ∀ (KW : Nat → Flow → Shared → Prop), (∀ n f s', WPost A₀ base outer g env.locals names loose m₀ J n Q s f s' → KW n f s') → ∀ n st g' m₁ nw₁ h₁ tk₁, TurnS A₀ base outer g g' → Fr g' env.locals h₁ m₁ → News g' env.locals h₁ nw₁ → (∀ p ∈ names st, m₁ p.1 = some p.2) → (∀ y, ¬ loose y → (∀ p ∈ names st, y ≠ p.1) → m₁ y = m₀ y) → J n st nw₁ →
      wpAny (model prog w) A (pyNext it) (fun r s₁ => match r with
        | none => wpAny (model prog w) A (execs orelse env) Q E s₁
        | some v => wpAny (model prog w) A (letOwnedTupleGo target it v) (fun _ s₁' => wpAny (model prog w) A (assign target env v) (fun _ s₂ =>
            wpAny (model prog w) A (execs body env) (KW n) E s₂) E s₁') E s₁) E { s with heap := h₁, toks := tk₁ })
    (hE : PassesOwn (model prog w) A env E := by passes_own) :
    codeAny (model prog w) A (.forLoop target it body orelse env) (fun r s' => match r with | .ok f => Q f s' | .error e => cameBackBy (model prog w) A env E e s') s := by
  replace turn := turn (fun n => WPost A₀ base outer g env.locals names loose m₀ J n Q s) (fun _ _ _ h => h)
  refine codeAny_forLoop_any (fun n s' => ∃ g' h₁ tk₁ m₁ st nw₁, s' = { s with heap := h₁, toks := tk₁ } ∧ TurnS A₀ base outer g g' ∧ Fr g' env.locals h₁ m₁ ∧ News g' env.locals h₁ nw₁ ∧ (∀ p ∈ names st, m₁ p.1 = some p.2) ∧ (∀ y, ¬ loose y → (∀ p ∈ names st, y ≠ p.1) → m₁ y = m₀ y) ∧ J n st nw₁) ?_ n₀
    ⟨g, s.heap, s.toks, m₀, st₀, nw, rfl, T, F, N, hm0, (fun _ _ _ => rfl), hJ⟩
  (intro n s'; refine x6_1 ?_; intro g' h₁ tk₁ m₁ st nw₁; refine x0_7 ?_; intro zz9; subst zz9; intro T₁ F₁ N₁ a1 a2 J₁)
  refine wpAny_mono (turn n st g' m₁ nw₁ h₁ tk₁ T₁ F₁ N₁ a1 a2 J₁) (fun r s₂ h₂ => ?_) hE
  cases r with
  | none => exact wpAny_passesOwn hE h₂
  | some v =>
    refine wpAny_mono h₂ (fun _ s₃ h₃ => wpAny_mono h₃ (fun _ s₄ h₄ => wpAny_mono h₄ (fun f s₅ h₅ => ?_) hE) hE) hE
    have fin : WEnd A₀ base outer g env.locals names loose m₀ J n s s₅ → ∃ m, m < n ∧ ∃ g' h₁ tk₁ m₁ st nw₁, s₅ = { s with heap := h₁, toks := tk₁ } ∧ TurnS A₀ base outer g g' ∧ Fr g' env.locals h₁ m₁ ∧ News g' env.locals h₁ nw₁ ∧ (∀ p ∈ names st, m₁ p.1 = some p.2) ∧ (∀ y, ¬ loose y → (∀ p ∈ names st, y ≠ p.1) → m₁ y = m₀ y) ∧ J m st nw₁ := by
      (refine x7_1 ?_; intro g'' h' tk st' nw' m' n'; refine x0_8 ?_; intro e b1 b2 b3 b4 b5 b6 b7)
      exact ⟨n', b6, g'', h', tk, m', st', nw', e, b1, b2, b3, b4, b5, b7⟩
    cases f with
    | ret v => exact h₅
    | brk => exact h₅
    | next => exact fin h₅
    | cont => exact fin h₅
/-- what a turn does with the next item -/
noncomputable abbrev NextTo (w : World) (A : Around) (env : Env) (target : Expr) (it : Value) (D P : Shared → Prop) (E : Value → Shared → Prop) (s : Shared) : Prop :=
  wpAny (model prog w) A (pyNext it) (fun r s₁ => match r with
    | none => D s₁
    | some v => wpAny (model prog w) A (letOwnedTupleGo target it v) (fun _ s₁' => wpAny (model prog w) A (assign target env v) (fun _ s₂ => P s₂) E s₁') E s₁) E s
variable {D P : Shared → Prop} {m : Str → Option Value} {nw : Led}
theorem assign_name {x : Str} {px : Pos} {v : Value} (hx : env.kindOf x = some .local) (hp : (env.scope.kind == .class || (env.scope.kind == .module && env.locals != env.globals)) = false) (F : Fr g env.locals s.heap m) (N : News g env.locals s.heap nw)
    (h : ∀ h' tk, Fr g env.locals h' (fun y => if y = x then some v else m y) → News g env.locals h' nw → P { s with heap := h', toks := tk }) : wpAny (model prog w) A (assign (.Name x px) env v) (fun _ s₂ => P s₂) E s := by
  refine wpAny_assign_Name (wpAny_storeName_local hx F.ns (fun h₁ hn₁ hs₁ => ?_) hp)
  exact h h₁ _ (F.set hn₁ hs₁) (N.set hs₁)
theorem assign_pair {t : Addr} {x y : Str} {px py pt : Pos} {x1} {u v : Value} (hh : A.handled = none) (hx : env.kindOf x = some .local) (hy : env.kindOf y = some .local) (hp : (env.scope.kind == .class || (env.scope.kind == .module && env.locals != env.globals)) = false)
    (ht : s.heap.IsTuple t #[u, v]) (F : Fr g env.locals s.heap m) (N : News g env.locals s.heap nw)
    (h : ∀ h' tk, Fr g env.locals h' (fun z => if z = y then some v else if z = x then some u else m z) → News g env.locals h' nw → P { s with heap := h', toks := tk }) :
    wpAny (model prog w) A (assign (.Tuple [.Name x px, .Name y py] x1 pt) env (.ref t)) (fun _ s₂ => P s₂) E s := by
  refine wpAny_assign_Tuple hh ht rfl rfl fun h₁ hx₁ => ?_
  replace hx₁ : Heap.ExtBut s.heap.objs.size s.heap h₁ := hx₁
  have up : ∀ b o, s.heap.get? b = some o → h₁.get? b = some o := fun b o e => hx₁ b o (Nat.ne_of_lt (Heap.lt_size e)) e
  (refine feed (led_grow F N up) ?_; refine x0_2 ?_; intro F₁ N₁)
  show wpAny _ _ (do holding [v] (assign (.Name x px) env u); do holding [] (assign (.Name y py) env v); pure ()) _ _ _
  refine wpAny_bind (wpAny_holding (wpAny_assign_Name (wpAny_storeName_local hx F₁.ns (fun h₂ hn₂ hs₂ => ?_) hp)))
  replace hs₂ : Heap.SameBut env.locals h₁ h₂ := hs₂
  have F₂ := F₁.set hn₂ hs₂
  refine wpAny_bind (wpAny_holding (wpAny_assign_Name (wpAny_storeName_local hy F₂.ns (fun h₃ hn₃ hs₃ => wpAny_pure ?_) hp)))
  replace hs₃ : Heap.SameBut env.locals h₂ h₃ := hs₃
  exact h h₃ _ (F₂.set hn₃ hs₃) ((N₁.set hs₂).set hs₃)
noncomputable abbrev itemsIt (d : Addr) (i n ep : Nat) (ok ov : Value) : Obj := { cls := .type "dict_itemiterator", dict := none, data := .fields #[.none, .bool false, .ref d, .int i 0, .int n 0, .int ep 0, ok, ov], slots := #[] }
theorem items_iter {κ : Type} [DecidableEq κ] {knd : KeyKind prog w κ} {v d : Addr} {o : Obj} {kvs : List (κ × Value)} {Q : Value → Shared → Prop} (F : Fr g env.locals s.heap m) (N : News g env.locals s.heap nw) (hv : (v, viewOf d) ∈ nw) (ho : (d, o) ∈ nw) (hd : o.IsDictOf knd kvs)
    (h : ∀ h' it ep, KdkAt knd o kvs ep → Fr g env.locals h' m → News g env.locals h' ((it, itemsIt d 0 kvs.length ep .none .none) :: nw) → AllLt it nw → Q (.ref it) { s with heap := h' }) : wpAny (model prog w) A (pyIter (.ref v)) Q E s := by
  (refine feed (KdkAt.of hd) ?_; refine x1_1 ?_; intro ep hat)
  refine wpAny_pyIter_items ⟨_, (N _ hv).1, rfl, rfl⟩ (hat.dictAt (N _ ho).1) ?_
  obtain ⟨F', N'⟩ := led_new (h' := s.heap.push (itemsIt d 0 kvs.length ep .none .none)) F N (fun b x e => Heap.get?_push_of_some _ e) (Nat.le_refl _) (Heap.get?_push_size _ rfl)
  exact h _ _ ep hat F' N' (allLt_of fun p hp => Heap.lt_size (N p hp).1)
theorem items_next {κ : Type} [DecidableEq κ] {knd : KeyKind prog w κ} {it d : Addr} {o : Obj} {kvs : List (κ × Value)} {i ep : Nat} {ok ov : Value} {x y : Str} {px py pt : Pos} {x1} (hh : A.handled = none) (hx : env.kindOf x = some .local) (hy : env.kindOf y = some .local) (hp : (env.scope.kind == .class || (env.scope.kind == .module && env.locals != env.globals)) = false)
    (F : Fr g env.locals s.heap m) (N : News g env.locals s.heap nw) (hi : (it, itemsIt d i kvs.length ep ok ov) ∈ nw) (ho : (d, o) ∈ nw) (ha : KdkAt knd o kvs ep)
    (item : ∀ k v key h' tk, kvs[i]? = some (k, v) → knd.is k key = true → Fr g env.locals h' (fun z => if z = y then some v else if z = x then some key else m z) → News g env.locals h' (put it (itemsIt d (i + 1) kvs.length ep key v) nw) → P { s with heap := h', toks := tk })
    (done : ∀ h', kvs[i]? = none → Fr g env.locals h' m → News g env.locals h' (del it nw) → D { s with heap := h' }) :
    NextTo w A env (.Tuple [.Name x px, .Name y py] x1 pt) (.ref it) D P E s := by
  have hat := ha.dictAt (N _ ho).1
  have hit : IsItemIter s.heap it d i kvs.length ep ok ov := (N _ hi).1
  have hcls : o.cls = .type "dict" := by (revert ha; refine x1_1 ?_; intro es; refine x0_2 ?_; intro h1 _); exact h1.1
  have hdi : d ≠ it := ne_of_cls N ho hi (by rw [hcls]; simp)
  cases hv : kvs[i]? with
  | none =>
    refine wpAny_pyNext_items_end hh hit hat hv fun h₁ he₁ => ?_
    replace he₁ : Heap.ExtBut it s.heap h₁ := he₁
    (refine feed (led_but F N hi (fun b x hb e => he₁ b x hb e)) ?_; refine x0_2 ?_; intro F' N')
    exact done h₁ hv F' N'
  | some kv =>
    obtain ⟨k, v⟩ := kv
    refine wpAny_pyNext_items_item hit hat hv fun key h₁ hkey heo ht₁ hz₁ hk₁ => ?_
    refine wpAny_letOwnedTupleGo_items heo fun h₂ he₂ hs₂ => ?_
    replace hs₂ : Heap.SameBut it h₁ h₂ := hs₂
    have hiH : it < s.heap.objs.size := Heap.lt_size hit
    have ht₂ : h₂.IsTuple s.heap.objs.size #[key, v] := ⟨_, (hs₂.2 _ (Nat.ne_of_gt hiH)).trans ht₁, rfl, _, rfl⟩
    (refine feed (led_at (h' := h₂) F N hi (fun b x hb e => hs₂.extBut b x hb (hk₁ b x hb e)) he₂) ?_; refine x0_2 ?_; intro F₂ N₂)
    exact assign_pair hh hx hy hp ht₂ F₂ N₂ fun h' tk F' N' => item k v key h' tk hv hkey F' N'
/-- along a list -/
noncomputable def ListIt (o : Obj) (l : Addr) (i : Nat) : Prop := o.cls = .type "list_iterator" ∧ o.data = .fields #[.ref l, .int i 0]
theorem list_iter {l : Addr} {vs : List Value} {c : Nat} {Q : Value → Shared → Prop} (F : Fr g env.locals s.heap m) (N : News g env.locals s.heap nw) (hl : (l, listOf vs.toArray c) ∈ nw)
    (h : ∀ h' it oi, Fr g env.locals h' m → News g env.locals h' ((it, oi) :: nw) → AllLt it nw → ListIt oi l 0 → Q (.ref it) { s with heap := h' }) : wpAny (model prog w) A (pyIter (.ref l)) Q E s := by
  refine wpAny_pyIter_list (News.isList N hl) ?_
  obtain ⟨F', N'⟩ := led_new (h' := s.heap.push { cls := .type "list_iterator", data := .fields #[.ref l, .int 0 0] }) F N (fun b x e => Heap.get?_push_of_some _ e) (Nat.le_refl _) (Heap.get?_push_size _ rfl)
  exact h _ _ _ F' N' (allLt_of fun p hp => Heap.lt_size (N p hp).1) ⟨rfl, rfl⟩
theorem list_next {it l : Addr} {oi : Obj} {vs : List Value} {c i : Nat} {x : Str} {px : Pos} (hh : A.handled = none) (hx : env.kindOf x = some .local) (hp : (env.scope.kind == .class || (env.scope.kind == .module && env.locals != env.globals)) = false)
    (F : Fr g env.locals s.heap m) (N : News g env.locals s.heap nw) (hi : (it, oi) ∈ nw) (hI : ListIt oi l i) (hl : (l, listOf vs.toArray c) ∈ nw)
    (item : ∀ v h' tk oi', vs[i]? = some v → Fr g env.locals h' (fun z => if z = x then some v else m z) → News g env.locals h' (put it oi' nw) → ListIt oi' l (i + 1) → P { s with heap := h', toks := tk })
    (done : ∀ h', vs[i]? = none → Fr g env.locals h' m → News g env.locals h' (del it nw) → D { s with heap := h' }) :
    NextTo w A env (.Name x px) (.ref it) D P E s := by
  have hit : s.heap.IsListIter it l i := ⟨oi, (N _ hi).1, hI.1, hI.2⟩
  have hls := News.isList N hl
  cases hv : vs[i]? with
  | none =>
    refine wpAny_pyNext_list_end hh hit hls (by simpa using hv) fun h₁ he₁ => ?_
    replace he₁ : Heap.ExtBut it s.heap h₁ := he₁
    (refine feed (led_but F N hi (fun b x hb e => he₁ b x hb e)) ?_; refine x0_2 ?_; intro F' N')
    exact done h₁ hv F' N'
  | some v =>
    refine wpAny_pyNext_list_item hit hls (x := v) (by simpa using hv) fun h₁ hit' hs₁ => ?_
    replace hs₁ : Heap.SameBut it s.heap h₁ := hs₁
    (revert hit'; refine x1_1 ?_; intro o'; refine x0_3 ?_; intro ho' hc' hd')
    (refine feed (led_set F N hi hs₁ ho') ?_; refine x0_2 ?_; intro F₁ N₁)
    show wpAny _ _ (pure ()) _ _ _
    refine wpAny_pure ?_
    exact assign_name hx hp F₁ N₁ fun h' tk F' N' => item v h' tk o' hv F' N' ⟨hc', hd'⟩
/-- along a text of small signs -/
noncomputable def StrIt (o : Obj) (x : Str) (t : Tok) (i : Nat) : Prop := o.cls = .type "str_ascii_iterator" ∧ o.data = .fields #[.str x t, .int i 0]
theorem str_iter {x : Str} {t : Tok} {Q : Value → Shared → Prop} (ha : x.cps.all (· < 128) = true) (F : Fr g env.locals s.heap m) (N : News g env.locals s.heap nw)
    (h : ∀ h' it oi, Fr g env.locals h' m → News g env.locals h' ((it, oi) :: nw) → AllLt it nw → StrIt oi x t 0 → Q (.ref it) { s with heap := h' }) : wpAny (model prog w) A (pyIter (.str x t)) Q E s := by
  refine wpAny_pyIter_strU ?_
  have e : strIterType x = "str_ascii_iterator" := by unfold strIterType; rw [if_pos ha]
  rw [e]
  obtain ⟨F', N'⟩ := led_new (h' := s.heap.push { cls := .type "str_ascii_iterator", data := .fields #[.str x t, .int 0 0] }) F N (fun b x e => Heap.get?_push_of_some _ e) (Nat.le_refl _) (Heap.get?_push_size _ rfl)
  exact h _ _ _ F' N' (allLt_of fun p hp => Heap.lt_size (N p hp).1) ⟨rfl, rfl⟩
theorem str_next {it : Addr} {oi : Obj} {z : Str} {t : Tok} {i : Nat} {x : Str} {px : Pos} (hh : A.handled = none) (hx : env.kindOf x = some .local) (hp : (env.scope.kind == .class || (env.scope.kind == .module && env.locals != env.globals)) = false)
    (F : Fr g env.locals s.heap m) (N : News g env.locals s.heap nw) (hi : (it, oi) ∈ nw) (hI : StrIt oi z t i)
    (item : ∀ c u h' tk oi', z.cps[i]? = some c → Fr g env.locals h' (fun y => if y = x then some (.str ⟨#[c]⟩ u) else m y) → News g env.locals h' (put it oi' nw) → StrIt oi' z t (i + 1) → P { s with heap := h', toks := tk })
    (done : ∀ h', z.cps[i]? = none → Fr g env.locals h' m → News g env.locals h' (del it nw) → D { s with heap := h' }) :
    NextTo w A env (.Name x px) (.ref it) D P E s := by
  have hit : s.heap.IsStrIter it "str_ascii_iterator" z t i := ⟨oi, (N _ hi).1, hI.1, hI.2⟩
  cases hv : z.cps[i]? with
  | none =>
    refine wpAny_pyNext_ascii_end hh hit hv fun h₁ he₁ => ?_
    replace he₁ : Heap.ExtBut it s.heap h₁ := he₁
    (refine feed (led_but F N hi (fun b x hb e => he₁ b x hb e)) ?_; refine x0_2 ?_; intro F' N')
    exact done h₁ hv F' N'
  | some c =>
    refine wpAny_pyNext_ascii_item hit hv fun h₁ hit' hs₁ => ?_
    replace hs₁ : Heap.SameBut it s.heap h₁ := hs₁
    (revert hit'; refine x1_1 ?_; intro o'; refine x0_3 ?_; intro ho' hc' hd')
    (refine feed (led_set F N hi hs₁ ho') ?_; refine x0_2 ?_; intro F₁ N₁)
    show wpAny _ _ (pure ()) _ _ _
    refine wpAny_pure ?_
    exact assign_name hx hp F₁ N₁ fun h' tk F' N' => item c _ h' tk o' hv F' N' ⟨hc', hd'⟩
/-- enumerate along a text -/
noncomputable abbrev enumIt (it : Addr) (i : Int) (old : Value) : Obj := { cls := .type "enumerate", dict := none, data := .fields #[.none, .bool false, .ref it, rawInt i, .none, old], slots := #[] }
theorem enum_next {e it : Addr} {oi : Obj} {z : Str} {t : Tok} {i : Nat} {old : Value} {x y : Str} {px py pt : Pos} {x1} (hh : A.handled = none) (hx : env.kindOf x = some .local) (hy : env.kindOf y = some .local) (hp : (env.scope.kind == .class || (env.scope.kind == .module && env.locals != env.globals)) = false)
    (F : Fr g env.locals s.heap m) (N : News g env.locals s.heap nw) (he : (e, enumIt it i old) ∈ nw) (hi : (it, oi) ∈ nw) (hI : StrIt oi z t i) (hle : i ≤ z.cps.size)
    (item : ∀ c u u' h' tk oi' old', z.cps[i]? = some c → Fr g env.locals h' (fun q => if q = y then some (.str ⟨#[c]⟩ u) else if q = x then some (.int i u') else m q) → News g env.locals h' (put e (enumIt it ((i : Int) + 1) old') (put it oi' nw)) → StrIt oi' z t (i + 1) → P { s with heap := h', toks := tk })
    (done : ∀ h', z.cps[i]? = none → Fr g env.locals h' m → News g env.locals h' (del it nw) → D { s with heap := h' }) :
    NextTo w A env (.Tuple [.Name x px, .Name y py] x1 pt) (.ref e) D P E s := by
  have hit : s.heap.IsStrIter it "str_ascii_iterator" z t i := ⟨oi, (N _ hi).1, hI.1, hI.2⟩
  have hen : IsEnum s.heap e it i old := (N _ he).1
  have hne : e ≠ it := ne_of_cls N he hi (by rw [hI.1]; simp)
  have Dr := Draws.strAscii (prog := prog) (w := w) (A := A.in1) hh it z t
  cases hv : z.cps[i]? with
  | none =>
    have hsz : z.cps.size ≤ i := by simpa using hv
    obtain rfl : i = z.cps.size := Nat.le_antisymm hle hsz
    refine wpAny_pyNext_enum_endD Dr hen hit fun h₁ he₁ => ?_
    replace he₁ : Heap.ExtBut it s.heap h₁ := he₁
    (refine feed (led_but F N hi (fun b x hb e => he₁ b x hb e)) ?_; refine x0_2 ?_; intro F' N')
    exact done h₁ hv F' N'
  | some c =>
    have hlt : i < z.cps.size := (Array.getElem?_eq_some_iff.mp hv).1
    refine wpAny_pyNext_enum_itemD Dr hen hit hlt hne (by simpa using hne) fun v h₁ tk hP ho hs' hT hsz hk => ?_
    (revert hP; refine x2_1 ?_; intro c' u; refine x0_2 ?_; intro hc'; intro zz9; subst zz9)
    rw [hv] at hc'
    obtain rfl := Option.some.inj hc'
    refine wpAny_letOwnedTupleGo_enum ho fun h₂ he₂ hs₂ => ?_
    replace hs₂ : Heap.SameBut e h₁ h₂ := hs₂
    have heH : e < s.heap.objs.size := Heap.lt_size hen
    have ht₂ : h₂.IsTuple s.heap.objs.size #[.int i tk, .str ⟨#[c]⟩ u] := ⟨_, (hs₂.2 _ (Nat.ne_of_gt heH)).trans hT, rfl, _, rfl⟩
    (revert hs'; refine x1_1 ?_; intro o'; refine x0_3 ?_; intro ho' hc' hd')
    have hi2 : h₂.get? it = some o' := (hs₂.2 _ (Ne.symm hne)).trans ho'
    have up : ∀ b x, b ≠ e → b ≠ it → s.heap.get? b = some x → h₂.get? b = some x := fun b x h1 h2 q => (hs₂.2 b h1).trans (hk b x h1 h2 q)
    have F₂ : Fr g env.locals h₂ m := ⟨F.ns.at' fun o q => up _ o (Ne.symm (N _ he).2.1) (Ne.symm (N _ hi).2.1) q, fun b x q => up b x (fun z => by rw [z, (N _ he).2.2] at q; cases q) (fun z => by rw [z, (N _ hi).2.2] at q; cases q) (F.keep b x q), F.above⟩
    have N₂ : News g env.locals h₂ (put e (enumIt it ((i : Int) + 1) (.str ⟨#[c]⟩ u)) (put it o' nw)) := fun p hp => by
      rcases List.mem_cons.mp hp with rfl | hp
      · exact ⟨he₂, (N _ he).2⟩
      · (refine feed (List.mem_filter.mp hp) ?_; refine x0_2 ?_; intro hp h1)
        rcases List.mem_cons.mp hp with rfl | hp
        · exact ⟨hi2, (N _ hi).2⟩
        · (refine feed (List.mem_filter.mp hp) ?_; refine x0_2 ?_; intro hp h2)
          exact ⟨up _ _ (by simpa using h1) (by simpa using h2) (N p hp).1, (N p hp).2⟩
    exact assign_pair hh hx hy hp ht₂ F₂ N₂ fun h' tk F' N' => item c u _ h' tk o' _ hv F' N' ⟨hc', hd'⟩
end
/-- the names of a frame, some of them unknown -/
noncomputable def mask (m₁ m₀ : Str → Option Value) : List Str → Str → Option Value
  | [], y => m₀ y
  | x :: r, y => if y = x then m₁ x else mask m₁ m₀ r y
theorem mask_eq {m₁ m₀ : Str → Option Value} {y : Str} : ∀ {ls : List Str}, (y ∉ ls → m₁ y = m₀ y) → m₁ y = mask m₁ m₀ ls y
  | [], h => h (fun h => nomatch h)
  | x :: r, h => by
    unfold mask
    by_cases e : y = x
    · rw [if_pos e, e]
    · rw [if_neg e]
      exact mask_eq fun hz => h fun hm => by
        rcases List.mem_cons.mp hm with hm | hm
        · exact e hm
        · exact hz hm
theorem over_eq {m₁ m₀ : Str → Option Value} {y : Str} : ∀ {nms : List (Str × Value)}, (∀ p ∈ nms, m₁ p.1 = some p.2) → ((∀ p ∈ nms, y ≠ p.1) → m₁ y = m₀ y) → m₁ y = over nms m₀ y
  | [], _, h => h (fun _ h => nomatch h)
  | p :: r, h1, h => by
    unfold over
    by_cases e : y = p.1
    · rw [if_pos e, e]; exact h1 p (.head _)
    · rw [if_neg e]
      exact over_eq (fun q hq => h1 q (.tail _ hq)) fun hz => h fun q hq => by
        rcases List.mem_cons.mp hq with rfl | hq
        · exact e
        · exact hz q hq
theorem frame_of {g h : Heap} {L : Addr} {m₁ m₀ : Str → Option Value} {nms : List (Str × Value)} {ls : List Str} (F : Fr g L h m₁) (a1 : ∀ p ∈ nms, m₁ p.1 = some p.2) (a2 : ∀ y, ¬ y ∈ ls → (∀ p ∈ nms, y ≠ p.1) → m₁ y = m₀ y) : Fr g L h (over nms (mask m₁ m₀ ls)) :=
  fr_congr F fun y => over_eq a1 fun hz => mask_eq fun hy => a2 y hy hz
/-- the names of a frame at a loop's turn: what the turn knows and what stands since the loop was entered -/
theorem frame_at {g h : Heap} {L : Addr} {m₁ m₀ : Str → Option Value} {P : Prop} {nms nmo : List (Str × Value)} {ls : List Str} (nn no : List Str) (F : Fr g L h m₁) (a1 : ∀ p ∈ nms, m₁ p.1 = some p.2) (a2 : ∀ y, ¬ y ∈ ls → (∀ p ∈ nms, y ≠ p.1) → m₁ y = m₀ y)
    (b1 : ∀ p ∈ nmo, m₀ p.1 = some p.2) (e1 : nms.map (·.1) = nn) (e2 : nmo.map (·.1) = no) (e3 : (no.all fun x => !decide (x ∈ ls) && !decide (x ∈ nn)) = true)
    (k : ∀ m₂, Fr g L h (over nms (over nmo m₂)) → (∀ y, ¬ y ∈ ls → ¬ y ∈ nn → over nms (over nmo m₂) y = m₀ y) → P) : P := by
  have ho : ∀ p ∈ nmo, m₁ p.1 = some p.2 := fun p hp => by
    have h1 := List.all_eq_true.mp e3 p.1 (by rw [← e2]; exact List.mem_map_of_mem hp)
    simp only [Bool.and_eq_true, Bool.not_eq_true', decide_eq_false_iff_not] at h1
    refine (a2 p.1 h1.1 fun q hq e => h1.2 ?_).trans (b1 p hp)
    rw [e, ← e1]; exact List.mem_map_of_mem hq
  have e : ∀ y, m₁ y = over nms (over nmo m₁) y := fun y => by
    have h1 : over nmo m₁ = m₁ := funext fun z => (over_self ho z).symm
    rw [h1]; exact over_self a1 y
  refine k m₁ (fr_congr F e) fun y h1 h2 => (e y).symm.trans (a2 y h1 fun p hp q => h2 ?_)
  rw [q, ← e1]; exact List.mem_map_of_mem hp
end For
section Bat
/-! ## the builder's objects in the ledger -/
structure Ads where
  x : Addr
  dx : Addr
  tr : Addr
  de : Addr
  fs : Addr
  ol : Addr
  nl : Addr
  se : Addr
structure NdA where
  x : Addr
  dx : Addr
  ar : Addr
  nd : Nd
noncomputable def NdA.foot (d : NdA) : List Addr := [d.x, d.dx, d.ar]
noncomputable def Ads.fix (G : Ads) : List Addr := [G.x, G.dx, G.tr, G.de, G.fs, G.ol, G.nl, G.se]
theorem Ads.f1 (G : Ads) : G.x ∈ G.fix := .head _
theorem Ads.f2 (G : Ads) : G.dx ∈ G.fix := .tail _ (.head _)
theorem Ads.f3 (G : Ads) : G.tr ∈ G.fix := .tail _ (.tail _ (.head _))
theorem Ads.f4 (G : Ads) : G.de ∈ G.fix := .tail _ (.tail _ (.tail _ (.head _)))
theorem Ads.f5 (G : Ads) : G.fs ∈ G.fix := .tail _ (.tail _ (.tail _ (.tail _ (.head _))))
theorem Ads.f6 (G : Ads) : G.ol ∈ G.fix := .tail _ (.tail _ (.tail _ (.tail _ (.tail _ (.head _)))))
theorem Ads.f7 (G : Ads) : G.nl ∈ G.fix := .tail _ (.tail _ (.tail _ (.tail _ (.tail _ (.tail _ (.head _))))))
theorem Ads.f8 (G : Ads) : G.se ∈ G.fix := .tail _ (.tail _ (.tail _ (.tail _ (.tail _ (.tail _ (.tail _ (.head _)))))))
theorem NdA.f1 (d : NdA) : d.x ∈ d.foot := .head _
theorem NdA.f2 (d : NdA) : d.dx ∈ d.foot := .tail _ (.head _)
theorem NdA.f3 (d : NdA) : d.ar ∈ d.foot := .tail _ (.tail _ (.head _))
noncomputable def Ads.all (G : Ads) (nds : List NdA) : List Addr := G.fix ++ nds.flatMap NdA.foot
theorem valueAt_stored {κ : Type} [DecidableEq κ] {kvs : List (κ × Value)} {k k' : κ} {v : Value} : valueAt (stored kvs k v) k' = if k' = k then some v else valueAt kvs k' := by
  have vc : ∀ (p : κ × Value) (l : List (κ × Value)) (z : κ), valueAt (p :: l) z = if p.1 = z then some p.2 else valueAt l z := fun p l z => by
    unfold valueAt
    by_cases h : p.1 = z <;> simp [List.find?, h]
  have put : ∀ l : List (κ × Value), valueAt (l.map fun kv => if kv.1 = k then (kv.1, v) else kv) k' = if k' = k then (if l.any (fun kv => decide (kv.1 = k)) then some v else none) else valueAt l k' := by
    intro l
    induction l with
    | nil => simp [valueAt]
    | cons p l ih =>
      rw [List.map_cons, vc, vc, ih]
      by_cases h1 : p.1 = k <;> by_cases h2 : k' = k
      · subst h2; simp [h1]
      · have h4 : ¬ k = k' := fun h => h2 h.symm
        simp [h1, h2, h4]
      · subst h2; simp only [if_neg h1, if_true, List.any_cons, decide_eq_false h1, Bool.false_or]
      · simp [h1, h2]
  unfold stored
  by_cases hc : (kvs.any fun kv => decide (kv.1 = k)) = true
  · rw [if_pos hc, put, hc]; simp
  · rw [if_neg hc]
    have hn : ∀ p ∈ kvs, p.1 ≠ k := fun p hp e => hc (List.any_eq_true.mpr ⟨p, hp, by simpa using e⟩)
    unfold valueAt
    rw [List.find?_append]
    by_cases h2 : k' = k
    · subst h2
      have : kvs.find? (fun kv => decide (kv.1 = k')) = none := by rw [List.find?_eq_none]; intro p hp; simpa using hn p hp
      simp [this]
    · have h4 : ¬ k = k' := fun h => h2 h.symm
      simp [h2, h4]
noncomputable def TrAt (w : World) (l : Led) (kvs : List (Int × Value)) (q : Int) (as : List (Nat × Nat)) : Prop :=
  (valueAt kvs q = none ∧ as = []) ∨ ∃ a o kv, valueAt kvs q = some (.ref a) ∧ (a, o) ∈ l ∧ o.IsDictOf (PySem.strKind prog w) kv ∧ ArcsV kv as ∧ (a == sysModules) = false ∧ as ≠ []
theorem TrAt.trans {w : World} {l : Led} {kvs : List (Int × Value)} {q : Int} {as : List (Nat × Nat)} (h : TrAt w l kvs q as) : ∃ kv, TransAt (w := w) l kvs q kv ∧ ArcsV kv as := by
  rcases h with ⟨h, rfl⟩ | ⟨a, o, kv, h1, h2, h3, h4, h5, _⟩
  · exact y1_1 ([]) (ya2 (.inl ⟨h, rfl⟩) trivial)
  · exact y1_1 kv (ya2 (.inr ⟨a, o, h1, h2, h3, h5⟩) h4)
noncomputable def TransIs (w : World) (l : Led) (tr : Addr) (T : Nat → List (Nat × Nat)) (k : Nat) (av : List Addr) : Prop :=
  ∃ ot kvs, (tr, ot) ∈ l ∧ ot.IsDictOf (intKind prog w) kvs ∧ kvs.length ≤ k ∧ (∀ q : Nat, TrAt w l kvs (q : Int) (T q)) ∧ (∀ (q q' : Nat) a, valueAt kvs (q : Int) = some (.ref a) → valueAt kvs (q' : Int) = some (.ref a) → q = q') ∧ ∀ (q : Nat) a, valueAt kvs (q : Int) = some (.ref a) → a ∉ av
theorem TransIs.mono {w : World} {l l' : Led} {tr : Addr} {T : Nat → List (Nat × Nat)} {k : Nat} {av : List Addr} (h : TransIs w l tr T k av) (hs : ∀ p ∈ l, p.2.cls = .type "dict" → p.1 = tr ∨ p.1 ∉ av → p ∈ l') : TransIs w l' tr T k av := by
  (revert h; refine x2_1 ?_; intro ot kvs; refine x0_6 ?_; intro h1 h2 h3 h4 h5 h6)
  refine y2_1 ot kvs (ya6 (hs _ h1 (by (revert h2; refine x2_1 ?_; intro _ _; refine x0_2 ?_; intro hex _); exact hex.1) (.inl rfl)) h2 h3 (fun q => ?_) h5 h6)
  rcases h4 q with h | ⟨a, o, kv, a1, a2, a3⟩
  · exact .inl h
  · exact .inr ⟨a, o, kv, a1, hs _ a2 (by (refine feed (a3.1) ?_; refine x2_1 ?_; intro _ _; refine x0_2 ?_; intro hex _); exact hex.1) (.inr (h6 q a a1)), a3⟩
theorem TransIs.sub {w : World} {l : Led} {tr : Addr} {T T' : Nat → List (Nat × Nat)} {k k' : Nat} {av av' : List Addr} (h : TransIs w l tr T k av) (ht : ∀ q, T' q = T q) (hk : k ≤ k') (ha : ∀ z ∈ av', z ∈ av) : TransIs w l tr T' k' av' := by
  (revert h; refine x2_1 ?_; intro ot kvs; refine x0_6 ?_; intro h1 h2 h3 h4 h5 h6)
  exact y2_1 ot kvs (ya6 h1 h2 (Nat.le_trans h3 hk) (fun q => by rw [ht]; exact h4 q) h5 (fun q a e m => h6 q a e (ha _ m)))
theorem TransIs.more {w : World} {l l' : Led} {tr : Addr} {T : Nat → List (Nat × Nat)} {k : Nat} {av new : List Addr} (h : TransIs w l tr T k av) (hn : ∀ z ∈ new, Fresh l z) : TransIs w l tr T k (new ++ av) := by
  (revert h; refine x2_1 ?_; intro ot kvs; refine x0_6 ?_; intro h1 h2 h3 h4 h5 h6)
  refine y2_1 ot kvs (ya6 h1 h2 h3 h4 h5 (fun q a e m => ?_))
  rcases List.mem_append.mp m with m | m
  · rcases h4 q with ⟨h, _⟩ | ⟨a', o, kv, a1, a2, a3⟩
    · rw [h] at e; cases e
    · rw [a1] at e; cases e
      exact hn _ m _ a2 rfl
  · exact h6 q a e m
theorem setArc_ne {as : List (Nat × Nat)} {c q : Nat} : setArc as c q ≠ [] := by
  unfold setArc
  split
  · rename_i h
    cases as with
    | nil => simp at h
    | cons a as => simp
  · simp
noncomputable abbrev upd (T : Nat → List (Nat × Nat)) (q : Nat) (as : List (Nat × Nat)) : Nat → List (Nat × Nat) := fun q' => if q' = q then as else T q'
theorem addT_spec : ∀ {w : World} {A : Around} {s : Shared} {h₀ : Heap} {L : Addr} {m : Str → Option Value} {nw : Led} (C : Cx w A h₀ L 0) (F : Fr h₀ L s.heap m) (N : News h₀ L s.heap nw)
    {R : Result → Shared → Prop} {x dx tr de fs ol : Addr} (hd : DfaAt nw x dx tr de fs ol) {q c n : Nat} {t tn tl : Tok} {T : Nat → List (Nat × Nat)} {k : Nat} {av : List Addr} (hT : TransIs w nw tr T k av) (htr : tr ∈ av) (hav : ∀ z ∈ av, ∃ o, (z, o) ∈ nw) (lo1 : (tr == sysModules) = false)
    (hz1 : k ≤ 10000) (hz2 : (T q).length ≤ 10000)
    (_h : ∀ h' tk' nw', Fr h₀ L h' m → News h₀ L h' nw' → (∀ p ∈ nw, p.1 ≠ tr → p.1 ∈ av ∨ p.2.cls ≠ .type "dict" → p ∈ nw') → TransIs w nw' tr (upd T q (setArc (T q) c n)) (if T q = [] then k + 1 else k) av → R (.ok (.ret .none)) ⟨h', s.gens, s.drawn, tk', s.os⟩),
    codeAny (model prog w) A (.call (.ref 243) ⟨[.ref x, .int q t, .str (ch c) tl, .int n tn], []⟩) R s := by
  intro w A s h₀ L m nw C F N R x dx tr de fs ol hd q c n t tn tl T k av hT htr hav lo1 hz1 hz2 h
  (revert hT; refine x2_1 ?_; intro ot kvs; refine x0_6 ?_; intro h1 h2 h3 h4 h5 h6)
  have hline := sizeLine_eq
  rcases h4 q with ⟨hv, he⟩ | ⟨a, oa, kv, hv, ha, hda, hav', hlo, hne⟩
  · refine addT_new C F N hd h1 h2 lo1 hv (by lia) fun h' tk' nw' a oa' ot' F' N' K hfr hlo ha hda ht' hot' => h h' tk' nw' F' N' (fun p hp hn _ => K p hp (by simpa using hn)) ?_
    have old : ∀ (q' : Nat) b, valueAt kvs (q' : Int) = some (.ref b) → ∃ o, (b, o) ∈ nw := fun q' b e => by
      rcases h4 q' with ⟨h, _⟩ | ⟨a', o, kv, a1, a2, a3⟩
      · rw [h] at e; cases e
      · rw [a1] at e; cases e; exact y1_1 o a2
    refine y2_1 ot' _ (ya6 ht' hot' ?_ (fun q' => ?_) (fun q1 q2 b e1 e2 => ?_) (fun q' b e m => ?_))
    · rw [he, if_pos rfl]; exact Nat.le_trans (stored_length_le ..) (by lia)
    · by_cases hq : q' = q
      · subst hq
        refine .inr ⟨a, oa', _, by rw [valueAt_stored, if_pos rfl], ha, hda, ?_, hlo, by (show (if q' = q' then _ else _) ≠ _); rw [if_pos rfl]; exact setArc_ne⟩
        show ArcsV _ (if q' = q' then _ else _)
        rw [if_pos rfl]
        rw [he]
        exact ArcsV.stored (kvs := []) (as := []) trivial c n tn
      · have hq' : ¬ (q' : Int) = (q : Int) := by lia
        simp only [if_neg hq]
        rcases h4 q' with ⟨g1, g2⟩ | ⟨a', o, kv, a1, a2, a3⟩
        · exact .inl ⟨by rw [valueAt_stored, if_neg hq']; exact g1, g2⟩
        · refine .inr ⟨a', o, kv, by rw [valueAt_stored, if_neg hq']; exact a1, K _ a2 ?_, a3⟩
          intro e
          have : a' = tr := by simpa using e
          exact h6 q' a' a1 (this ▸ htr)
    · rw [valueAt_stored] at e1 e2
      split at e1 <;> split at e2
      · lia
      · have : a = b := by simpa using e1
        subst this
        (refine feed (old q2 a e2) ?_; refine x1_1 ?_; intro o ho)
        exact absurd rfl (hfr _ ho)
      · have : a = b := by simpa using e2
        subst this
        (refine feed (old q1 a e1) ?_; refine x1_1 ?_; intro o ho)
        exact absurd rfl (hfr _ ho)
      · exact h5 q1 q2 b e1 e2
    · rw [valueAt_stored] at e
      split at e
      · have : a = b := by simpa using e
        subst this
        (refine feed (hav a m) ?_; refine x1_1 ?_; intro o ho)
        exact hfr _ ho rfl
      · exact h6 q' b e m
  · have hl := hav'.length
    have hatr : a ≠ tr := fun e => h6 q a hv (e ▸ htr)
    refine addT_there C F N hd h1 h2 lo1 hv ha hda (by lia) (by lia) fun h' tk' nw' oa' F' N' K ha' hda' => h h' tk' nw' F' N' (fun p hp hn hx => K p hp ?_) ?_
    · intro e
      have e' : p.1 = a := by simpa using e
      rcases hx with hx | hx
      · exact h6 q a hv (e' ▸ hx)
      · obtain ⟨p1, p2⟩ := p
        simp only at e'
        subst e'
        have := same_at N hp ha
        subst this
        (revert hda; refine x2_1 ?_; intro _ _; refine x0_2 ?_; intro hex _)
        exact hx hex.1
    · refine y2_1 ot kvs (ya6 (K _ h1 (by simpa using Ne.symm hatr)) h2 (by rw [if_neg hne]; exact h3) (fun q' => ?_) h5 h6)
      by_cases hq : q' = q
      · subst hq
        refine .inr ⟨a, oa', _, hv, ha', hda', ?_, hlo, by (show (if q' = q' then _ else _) ≠ _); rw [if_pos rfl]; exact setArc_ne⟩
        show ArcsV _ (if q' = q' then _ else _)
        rw [if_pos rfl]
        exact hav'.stored c n tn
      · simp only [if_neg hq]
        rcases h4 q' with g | ⟨a', o, kv', a1, a2, a3⟩
        · exact .inl g
        · refine .inr ⟨a', o, kv', a1, K _ a2 ?_, a3⟩
          intro e
          have : a' = a := by simpa using e
          subst this
          exact hq (h5 _ _ _ a1 hv)
noncomputable def ArcsAt (w : World) (l : Led) (ar : Addr) (as : List (Nat × Nat)) : Prop := ∃ o kv, (ar, o) ∈ l ∧ o.IsDictOf (PySem.strKind prog w) kv ∧ ArcsV kv as
structure NodeIs (w : World) (l : Led) (d : NdA) : Prop where
  at_ : NodeAt l d.x d.dx d.nd.n d.ar d.nd.fin
  arcs : ArcsAt w l d.ar d.nd.arcs
  lo : (d.ar == sysModules) = false
theorem NodeIs.mono {w : World} {l l' : Led} {d : NdA} (h : NodeIs w l d) (hs : ∀ p ∈ l, p.1 ∈ d.foot → p ∈ l') : NodeIs w l' d := by
  (revert h; rintro ⟨zq0, zq1, c⟩; revert zq0; refine x0_2 ?_; intro a1; refine x7_1 ?_; intro h1 h2 h3 t1 t2 t3 tn a2; revert zq1; refine x2_1 ?_; intro o kv; refine x0_2 ?_; intro b1 b2)
  exact ⟨⟨hs _ a1 (by first | with_reducible exact NdA.f1 _ | with_reducible exact NdA.f2 _ | with_reducible exact NdA.f3 _ | simp [NdA.foot]), h1, h2, h3, t1, t2, t3, tn, hs _ a2 (by first | with_reducible exact NdA.f1 _ | with_reducible exact NdA.f2 _ | with_reducible exact NdA.f3 _ | simp [NdA.foot])⟩, ⟨o, kv, hs _ b1 (by first | with_reducible exact NdA.f1 _ | with_reducible exact NdA.f2 _ | with_reducible exact NdA.f3 _ | simp [NdA.foot]), b2⟩, c⟩
theorem NodeIs.there {w : World} {l : Led} {d : NdA} (h : NodeIs w l d) : ∀ z ∈ d.foot, ∃ o, (z, o) ∈ l := by
  (revert h; rintro ⟨zq0, zq1, c⟩; revert zq0; refine x0_2 ?_; intro a1; refine x7_1 ?_; intro h1 h2 h3 t1 t2 t3 tn a2; revert zq1; refine x2_1 ?_; intro o kv; refine x0_2 ?_; intro b1 b2)
  intro z hz
  simp only [NdA.foot, List.mem_cons, List.not_mem_nil, or_false] at hz
  rcases hz with rfl | rfl | rfl
  · exact y1_1 _ a1
  · exact y1_1 _ a2
  · exact y1_1 _ b1
noncomputable def SeenV : List (SeenK × Addr × Value) → List ((List (Nat × Nat) × Bool) × Nat) → Prop
  | [], [] => True
  | x :: xs, y :: ys => x.1 = (arcsK y.1.1, y.1.2) ∧ (∃ t, x.2.2 = .int y.2 t) ∧ SeenV xs ys
  | _, _ => False
theorem arcsK_inj {as bs : List (Nat × Nat)} (h : arcsK as = arcsK bs) : as = bs := by
  refine (List.map_inj_right (f := fun a : Nat × Nat => (ch a.1, (a.2 : Int))) ?_).mp h
  (refine xp ?_; intro a1 a2; refine xp ?_; intro b1 b2; intro e)
  have e1 := (Prod.mk.inj e).1
  have e2 := (Prod.mk.inj e).2
  have e3 := ch_inj e1
  have e4 : a2 = b2 := Int.ofNat.inj e2
  simp only at e3
  rw [e3, e4]
theorem SeenV.length : ∀ {xs ys}, SeenV xs ys → xs.length = ys.length
  | [], [], _ => rfl
  | _ :: _, _ :: _, ⟨_, _, r⟩ => by simp [SeenV.length r]
  | [], _ :: _, h => h.elim
  | _ :: _, [], h => h.elim
theorem SeenV.append {k : List (Nat × Nat)} {f : Bool} {q : Nat} {a : Addr} {t : Tok} : ∀ {xs ys}, SeenV xs ys → SeenV (xs ++ [((arcsK k, f), a, .int q t)]) (ys ++ [((k, f), q)])
  | [], [], _ => ⟨rfl, ⟨t, rfl⟩, trivial⟩
  | _ :: _, _ :: _, ⟨h1, h2, r⟩ => ⟨h1, h2, SeenV.append r⟩
  | [], _ :: _, h => h.elim
  | _ :: _, [], h => h.elim
theorem SeenV.at_none {k : List (Nat × Nat)} {f : Bool} : ∀ {xs ys}, SeenV xs ys → (∀ q, ((k, f), q) ∉ ys) → atKey xs (arcsK k, f) = none
  | [], [], _, _ => rfl
  | x :: xs, y :: ys, ⟨h1, h2, r⟩, h => by
    have hne : ¬ x.1 = (arcsK k, f) := fun e => by
      rw [h1] at e
      have e1 := arcsK_inj (Prod.mk.inj e).1
      have e2 := (Prod.mk.inj e).2
      refine h y.2 (List.mem_cons.mpr (.inl ?_))
      rw [← e1, ← e2]
    have := SeenV.at_none r fun q m => h q (.tail _ m)
    unfold atKey at this ⊢
    rw [List.find?_cons_of_neg (by simpa using hne)]
    exact this
  | [], _ :: _, h, _ => h.elim
  | _ :: _, [], h, _ => h.elim
theorem SeenV.at_some {k : List (Nat × Nat)} {f : Bool} {q : Nat} : ∀ {xs ys}, SeenV xs ys → ((k, f), q) ∈ ys → ∃ q' a t, ((k, f), q') ∈ ys ∧ atKey xs (arcsK k, f) = some (a, .int (q' : Nat) t)
  | [], [], _, h => nomatch h
  | x :: xs, y :: ys, ⟨h1, ⟨t, h2⟩, r⟩, h => by
    by_cases hx : x.1 = (arcsK k, f)
    · refine y3_1 y.2 x.2.1 t (ya2 ?_ ?_)
      · rw [h1] at hx
        have e1 := arcsK_inj (Prod.mk.inj hx).1
        have e2 := (Prod.mk.inj hx).2
        refine List.mem_cons.mpr (.inl ?_)
        rw [← e1, ← e2]
      · unfold atKey
        rw [List.find?_cons_of_pos (by simpa using hx)]
        rw [← h2]; rfl
    · rcases List.mem_cons.mp h with e | m
      · exfalso
        apply hx
        rw [h1, ← e]
      · (refine feed (SeenV.at_some r m) ?_; refine x3_1 ?_; intro q' a t'; refine x0_2 ?_; intro m' e)
        refine y3_1 q' a t' (ya2 (.tail _ m') ?_)
        unfold atKey at e ⊢
        rw [List.find?_cons_of_neg (by simpa using hx)]
        exact e
  | [], _ :: _, h, _ => h.elim
  | _ :: _, [], h, _ => h.elim
noncomputable def SeIs (w : World) (l : Led) (se : Addr) (seen : List ((List (Nat × Nat) × Bool) × Nat)) : Prop := ∃ o xs, (se, o) ∈ l ∧ SeenD w l o xs ∧ SeenV xs seen
noncomputable def FsIs (w : World) (l : Led) (fs : Addr) (F : Nat → Bool) (k : Nat) : Prop := ∃ o S n, (fs, o) ∈ l ∧ o.SetObjOf (intKind prog w) S n ∧ n ≤ k ∧ (∀ q : Nat, S q = F q) ∧ ∀ z : Int, S z = true → 0 ≤ z ∧ z < 10000
structure BAt (w : World) (l : Led) (G : Ads) (nds : List NdA) (b : Bld) (c : Nat) (ex : List Addr) : Prop where
  dfa : DfaAt l G.x G.dx G.tr G.de G.fs G.ol
  de : ∃ o, (G.de, o) ∈ l ∧ o.IsDictOf (intKind prog w) []
  ol : ∃ o, (G.ol, o) ∈ l ∧ o.IsDictOf (intKind prog w) []
  fs : FsIs w l G.fs b.F b.seen.length
  tr : TransIs w l G.tr b.T b.seen.length (G.all nds ++ ex)
  nl : ∃ k, (G.nl, listOf (nds.reverse.map fun d => Value.ref d.x).toArray k) ∈ l
  nodes : ∀ d ∈ nds, NodeIs w l d
  se : SeIs w l G.se b.seen
  nodup : (G.all nds).Nodup
  cnt : b.seen.length + nds.length ≤ c
  lt : ∀ d ∈ nds, d.nd.n < c
  lo : (G.tr == sysModules) = false ∧ (G.de == sysModules) = false ∧ (G.ol == sysModules) = false ∧ (G.se == sysModules) = false
theorem BAt.there {w : World} {l : Led} {G : Ads} {nds : List NdA} {b : Bld} {c : Nat} {ex : List Addr} (h : BAt w l G nds b c ex) : ∀ z ∈ G.all nds, ∃ o, (z, o) ∈ l := by
  intro z hz
  rcases List.mem_append.mp hz with hz | hz
  · (refine feed (h.dfa) ?_; refine x0_2 ?_; intro d1; refine x11_1 ?_; intro g1 g2 g3 g4 g5 t1 t2 t3 t4 t5 tn d2)
    (refine feed (h.de) ?_; refine x1_1 ?_; intro o1; refine x0_2 ?_; intro e1 _)
    (refine feed (h.ol) ?_; refine x1_1 ?_; intro o2; refine x0_2 ?_; intro e2 _)
    (refine feed (h.fs) ?_; refine x3_1 ?_; intro o3 _ _; refine x0_2 ?_; intro e3 _)
    (refine feed (h.tr) ?_; refine x2_1 ?_; intro o4 _; refine x0_2 ?_; intro e4 _)
    (refine feed (h.nl) ?_; refine x1_1 ?_; intro _ e5)
    (refine feed (h.se) ?_; refine x2_1 ?_; intro o6 _; refine x0_2 ?_; intro e6 _)
    simp only [Ads.fix, List.mem_cons, List.not_mem_nil, or_false] at hz
    rcases hz with rfl | rfl | rfl | rfl | rfl | rfl | rfl | rfl
    · exact y1_1 _ d1
    · exact y1_1 _ d2
    · exact y1_1 _ e4
    · exact y1_1 _ e1
    · exact y1_1 _ e3
    · exact y1_1 _ e2
    · exact y1_1 _ e5
    · exact y1_1 _ e6
  · (refine feed (List.mem_flatMap.mp hz) ?_; refine x1_1 ?_; intro d; refine x0_2 ?_; intro hd hz)
    exact (h.nodes d hd).there z hz
end Bat
section Bat2
theorem Ads.fix_nodup {G : Ads} {nds : List NdA} (h : (G.all nds).Nodup) : G.fix.Nodup := (List.nodup_append.mp h).1
theorem Ads.fix_ne {G : Ads} (h : G.fix.Nodup) : (¬ G.x = G.dx ∧ ¬ G.x = G.tr ∧ ¬ G.x = G.de ∧ ¬ G.x = G.fs ∧ ¬ G.x = G.ol ∧ ¬ G.x = G.nl ∧ ¬ G.x = G.se) ∧ (¬ G.dx = G.tr ∧ ¬ G.dx = G.de ∧ ¬ G.dx = G.fs ∧ ¬ G.dx = G.ol ∧ ¬ G.dx = G.nl ∧ ¬ G.dx = G.se) ∧ (¬ G.tr = G.de ∧ ¬ G.tr = G.fs ∧ ¬ G.tr = G.ol ∧ ¬ G.tr = G.nl ∧ ¬ G.tr = G.se) ∧ (¬ G.de = G.fs ∧ ¬ G.de = G.ol ∧ ¬ G.de = G.nl ∧ ¬ G.de = G.se) ∧ (¬ G.fs = G.ol ∧ ¬ G.fs = G.nl ∧ ¬ G.fs = G.se) ∧ (¬ G.ol = G.nl ∧ ¬ G.ol = G.se) ∧ ¬ G.nl = G.se ∧ True := by
  simp only [Ads.fix, List.nodup_cons, List.mem_cons, List.not_mem_nil, or_false, not_or] at h
  (revert h; refine x0_8 ?_; intro h1 h2 h3 h4 h5 h6 h7 _)
  exact ⟨h1, h2, h3, h4, h5, h6, h7, trivial⟩
theorem NdA.foot_ne {d : NdA} (h : d.foot.Nodup) : (¬ d.x = d.dx ∧ ¬ d.x = d.ar) ∧ ¬ d.dx = d.ar ∧ True := by
  simp only [NdA.foot, List.nodup_cons, List.mem_cons, List.not_mem_nil, or_false, not_or] at h
  exact ⟨h.1, h.2.1, trivial⟩
theorem Ads.off {G : Ads} {nds : List NdA} (h : (G.all nds).Nodup) {d : NdA} (hd : d ∈ nds) {y z : Addr} (hy : y ∈ G.fix) (hz : z ∈ d.foot) : z ≠ y := fun e =>
  (List.nodup_append.mp h).2.2 y hy z (List.mem_flatMap.mpr ⟨d, hd, hz⟩) e.symm
theorem Ads.apart {G : Ads} {top : NdA} {rest : List NdA} (h : (G.all (top :: rest)).Nodup) {d : NdA} (hd : d ∈ rest) {y z : Addr} (hy : y ∈ top.foot) (hz : z ∈ d.foot) : z ≠ y := fun e => by
  have h2 := (List.nodup_append.mp h).2.1
  rw [List.flatMap_cons] at h2
  exact (List.nodup_append.mp h2).2.2 y hy z (List.mem_flatMap.mpr ⟨d, hd, hz⟩) e.symm
theorem Ads.foot_nodup {G : Ads} {top : NdA} {rest : List NdA} (h : (G.all (top :: rest)).Nodup) : top.foot.Nodup := by
  have h2 := (List.nodup_append.mp h).2.1
  rw [List.flatMap_cons] at h2
  exact (List.nodup_append.mp h2).1
theorem Ads.sub {G : Ads} {top : NdA} {rest : List NdA} (h : (G.all (top :: rest)).Nodup) : (G.all rest).Nodup := by
  unfold Ads.all at h ⊢
  rw [List.flatMap_cons] at h
  refine List.Sublist.nodup ?_ h
  exact List.Sublist.append (List.Sublist.refl _) (List.sublist_append_right _ _)
theorem Ads.all_tail {G : Ads} {top : NdA} {rest : List NdA} {z : Addr} (h : z ∈ G.all rest) : z ∈ G.all (top :: rest) := by
  rcases List.mem_append.mp h with h | h
  · exact List.mem_append_left _ h
  · exact List.mem_append_right _ (by rw [List.flatMap_cons]; exact List.mem_append_right _ h)
theorem Ads.mem_fix {G : Ads} {nds : List NdA} {z : Addr} (h : z ∈ G.fix) : z ∈ G.all nds := List.mem_append_left _ h
theorem Ads.mem_foot {G : Ads} {nds : List NdA} {d : NdA} (hd : d ∈ nds) {z : Addr} (h : z ∈ d.foot) : z ∈ G.all nds := List.mem_append_right _ (List.mem_flatMap.mpr ⟨d, hd, h⟩)
theorem SeIs.mono {w : World} {l l' : Led} {se : Addr} {seen} (h : SeIs w l se seen) (h1 : ∀ o, (se, o) ∈ l → (se, o) ∈ l') (h2 : ∀ a xs, (a, tupObj xs) ∈ l → (a, tupObj xs) ∈ l') : SeIs w l' se seen :=
  let ⟨o, xs, a, b, c⟩ := h; ⟨o, xs, h1 _ a, b.mono h2, c⟩
theorem FsIs.mono {w : World} {l l' : Led} {fs : Addr} {F : Nat → Bool} {k : Nat} (h : FsIs w l fs F k) (h1 : ∀ o, (fs, o) ∈ l → (fs, o) ∈ l') : FsIs w l' fs F k :=
  let ⟨o, S, n, a, b⟩ := h; ⟨o, S, n, h1 _ a, b⟩
theorem DfaAt.mono {l l' : Led} {x dx tr de fs ol : Addr} (h : DfaAt l x dx tr de fs ol) (h1 : ∀ o, (x, o) ∈ l → (x, o) ∈ l') (h2 : ∀ o, (dx, o) ∈ l → (dx, o) ∈ l') : DfaAt l' x dx tr de fs ol := by
  (revert h; refine x0_2 ?_; intro d1; refine x11_1 ?_; intro g1 g2 g3 g4 g5 t1 t2 t3 t4 t5 tn d2)
  exact ⟨h1 _ d1, g1, g2, g3, g4, g5, t1, t2, t3, t4, t5, tn, h2 _ d2⟩
/-- the tuples stay where no tuple is changed -/
theorem tups_stay {h₀ h : Heap} {L : Addr} {l l' : Led} {W : List Addr} (N : News h₀ L h l) (hW : ∀ z ∈ W, ∃ o, (z, o) ∈ l ∧ o.cls ≠ .type "tuple") (hk : ∀ p ∈ l, p.1 ∉ W → p.2.cls ≠ .type "dict" → p ∈ l') : ∀ a xs, (a, tupObj xs) ∈ l → (a, tupObj xs) ∈ l' :=
  fun a xs hm => hk _ hm (fun hw => by
    (refine feed (hW _ hw) ?_; refine x1_1 ?_; intro o; refine x0_2 ?_; intro ho hc)
    have := same_at N hm ho
    exact hc (by rw [← this])) (by show Value.type "tuple" ≠ _; simp)
section
variable {w : World} {nw l' : Led} {G : Ads} {b : Bld} {c : Nat} {ex : List Addr} {top par : NdA} {rest : List NdA} {h₀ h : Heap} {L : Addr}
theorem BAt.cls_tr {nds : List NdA} (B : BAt w nw G nds b c ex) : ∃ o, (G.tr, o) ∈ nw ∧ o.cls ≠ .type "tuple" := by
  (refine feed (B.tr) ?_; refine x2_1 ?_; intro o _; refine x0_3 ?_; intro e; refine x2_1 ?_; intro _ _; refine x0_2 ?_; intro hex _; intro _)
  exact y1_1 o (ya2 e (by rw [hex.1]; simp))
theorem BAt.cls_nl {nds : List NdA} (B : BAt w nw G nds b c ex) : ∃ o, (G.nl, o) ∈ nw ∧ o.cls ≠ .type "tuple" := by
  (refine feed (B.nl) ?_; refine x1_1 ?_; intro k e)
  exact y1_1 _ (ya2 e (by simp))
theorem NodeIs.cls_ar {d : NdA} (B : NodeIs w nw d) : ∃ o, (d.ar, o) ∈ nw ∧ o.cls ≠ .type "tuple" := by
  (refine feed (B.arcs) ?_; refine x2_1 ?_; intro o kv; refine x0_3 ?_; intro e; refine x2_1 ?_; intro _ _; refine x0_2 ?_; intro hex _; intro _)
  exact y1_1 o (ya2 e (by rw [hex.1]; simp))
theorem BAt.miss (N : News h₀ L h nw) (B : BAt w nw G (top :: rest) b c ex) (hk : ∀ p ∈ nw, p.1 ∉ [G.nl, G.fs, G.se, G.tr] → (p.1 ∈ G.all (top :: rest) ∨ p.2.cls ≠ .type "dict") → p ∈ l')
    (hnl : ∃ k, (G.nl, listOf (rest.reverse.map fun d => Value.ref d.x).toArray k) ∈ l') (hfs : FsIs w l' G.fs (fun q => if q = top.nd.n then top.nd.fin else b.F q) (b.seen.length + 1))
    (hse : SeIs w l' G.se (b.seen ++ [((top.nd.arcs, top.nd.fin), top.nd.n)])) (htr : TransIs w l' G.tr (upd b.T top.nd.n top.nd.arcs) (b.seen.length + 1) (G.all (top :: rest) ++ ex)) :
    BAt w l' G rest (b.add top.nd.n top.nd.arcs top.nd.fin) c ex := by
  have hf := Ads.fix_nodup B.nodup
  replace hf := Ads.fix_ne hf
  (revert hf; refine x0_8 ?_; refine x0_7 ?_; intro f1 f2 f3 f4 f5 f6 f7; refine x0_6 ?_; intro e2 e3 e4 e5 e6 e7; refine x0_5 ?_; intro d3 d4 d5 d6 d7; refine x0_4 ?_; intro c4 c5 c6 c7; refine x0_3 ?_; intro b5 b6 b7; refine x0_2 ?_; intro a6 a7; intro z7 _)
  have go : ∀ z o, z ∈ [G.x, G.dx, G.de, G.ol] → (z, o) ∈ nw → (z, o) ∈ l' := fun z o hz hm => hk _ hm (by
    simp only [List.mem_cons, List.not_mem_nil, or_false] at hz ⊢
    rcases hz with rfl | rfl | rfl | rfl <;> simp only [not_or] <;> refine ⟨?_, ?_, ?_, ?_⟩ <;> first | assumption | exact Ne.symm (by assumption)) (.inl (Ads.mem_fix (by
      simp only [Ads.fix, List.mem_cons, List.not_mem_nil, or_false] at hz ⊢
      rcases hz with h | h | h | h <;> simp [h])))
  (refine feed (B.de) ?_; refine x1_1 ?_; intro o1; refine x0_2 ?_; intro y1 z1)
  (refine feed (B.ol) ?_; refine x1_1 ?_; intro o2; refine x0_2 ?_; intro y2 z2)
  refine ⟨B.dfa.mono (fun o hm => go _ o (by repeat (first | exact List.Mem.head _ | refine List.Mem.tail _ ?_)) hm) (fun o hm => go _ o (by repeat (first | exact List.Mem.head _ | refine List.Mem.tail _ ?_)) hm), ⟨o1, go _ _ (by repeat (first | exact List.Mem.head _ | refine List.Mem.tail _ ?_)) y1, z1⟩, ⟨o2, go _ _ (by repeat (first | exact List.Mem.head _ | refine List.Mem.tail _ ?_)) y2, z2⟩, ?_, ?_, hnl, fun d hd => ?_, ?_, Ads.sub B.nodup, ?_, fun d hd => B.lt d (.tail _ hd), B.lo⟩
  · show FsIs w l' G.fs _ (b.seen ++ [_]).length
    rw [List.length_append]; exact hfs
  · show TransIs w l' G.tr _ (b.seen ++ [_]).length _
    rw [List.length_append]
    exact htr.sub (fun q => rfl) (Nat.le_refl _) fun z hz => by
      rcases List.mem_append.mp hz with hz | hz
      · exact List.mem_append_left _ (Ads.all_tail hz)
      · exact List.mem_append_right _ hz
  · refine (B.nodes d (.tail _ hd)).mono fun p hp hz => hk p hp (fun hw => ?_) (.inl (Ads.mem_foot (.tail _ hd) hz))
    simp only [List.mem_cons, List.not_mem_nil, or_false] at hw
    rcases hw with e | e | e | e <;> exact Ads.off B.nodup (.tail _ hd) (by first | with_reducible exact Ads.f1 _ | with_reducible exact Ads.f2 _ | with_reducible exact Ads.f3 _ | with_reducible exact Ads.f4 _ | with_reducible exact Ads.f5 _ | with_reducible exact Ads.f6 _ | with_reducible exact Ads.f7 _ | with_reducible exact Ads.f8 _ | simp [Ads.fix]) hz e
  · exact hse
  · have := B.cnt
    show (b.seen ++ [_]).length + _ ≤ c
    simp only [List.length_append, List.length_cons, List.length_nil] at this ⊢
    lia
theorem BAt.hit {ci q : Nat} (N : News h₀ L h nw) (B : BAt w nw G (top :: par :: rest) b c ex) (hk : ∀ p ∈ nw, p.1 ∉ [G.nl, par.ar, G.tr] → (p.1 ∈ G.all (top :: par :: rest) ∨ p.2.cls ≠ .type "dict") → p ∈ l')
    (hnl : ∃ k, (G.nl, listOf ((par :: rest).reverse.map fun d => Value.ref d.x).toArray k) ∈ l') (har : ArcsAt w l' par.ar (setArc par.nd.arcs ci q))
    (htr : TransIs w l' G.tr b.T b.seen.length (G.all (top :: par :: rest) ++ ex)) :
    BAt w l' G (⟨par.x, par.dx, par.ar, ⟨par.nd.n, setArc par.nd.arcs ci q, par.nd.fin⟩⟩ :: rest) b c ex := by
  have hf := Ads.fix_nodup B.nodup
  replace hf := Ads.fix_ne hf
  (revert hf; refine x0_8 ?_; refine x0_7 ?_; intro f1 f2 f3 f4 f5 f6 f7; refine x0_6 ?_; intro e2 e3 e4 e5 e6 e7; refine x0_5 ?_; intro d3 d4 d5 d6 d7; refine x0_4 ?_; intro c4 c5 c6 c7; refine x0_3 ?_; intro b5 b6 b7; refine x0_2 ?_; intro a6 a7; intro z7 _)
  have hpm : par ∈ top :: par :: rest := by simp
  have har' : par.ar ∈ par.foot := by simp [NdA.foot]
  have go : ∀ z o, z ∈ [G.x, G.dx, G.de, G.ol, G.fs, G.se] → (z, o) ∈ nw → (z, o) ∈ l' := fun z o hz hm => by
    have hzf : z ∈ G.fix := by
      simp only [Ads.fix, List.mem_cons, List.not_mem_nil, or_false] at hz ⊢
      rcases hz with h | h | h | h | h | h <;> simp [h]
    refine hk _ hm ?_ (.inl (Ads.mem_fix hzf))
    have hne : z ≠ par.ar := fun e => Ads.off B.nodup hpm hzf har' e.symm
    simp only [List.mem_cons, List.not_mem_nil, or_false, not_or] at hz ⊢
    refine ⟨?_, hne, ?_⟩ <;> rcases hz with rfl | rfl | rfl | rfl | rfl | rfl <;> first | assumption | exact Ne.symm (by assumption)
  (refine feed (B.de) ?_; refine x1_1 ?_; intro o1; refine x0_2 ?_; intro y1 z1)
  (refine feed (B.ol) ?_; refine x1_1 ?_; intro o2; refine x0_2 ?_; intro y2 z2)
  have hsub := Ads.sub B.nodup
  have hfoot := Ads.foot_nodup hsub
  replace hfoot := NdA.foot_ne hfoot
  refine ⟨B.dfa.mono (fun o hm => go _ o (by repeat (first | exact List.Mem.head _ | refine List.Mem.tail _ ?_)) hm) (fun o hm => go _ o (by repeat (first | exact List.Mem.head _ | refine List.Mem.tail _ ?_)) hm), ⟨o1, go _ _ (by repeat (first | exact List.Mem.head _ | refine List.Mem.tail _ ?_)) y1, z1⟩, ⟨o2, go _ _ (by repeat (first | exact List.Mem.head _ | refine List.Mem.tail _ ?_)) y2, z2⟩, B.fs.mono (fun o hm => go _ o (by repeat (first | exact List.Mem.head _ | refine List.Mem.tail _ ?_)) hm), ?_, by simpa using hnl, fun d hd => ?_, B.se.mono (fun o hm => go _ o (by repeat (first | exact List.Mem.head _ | refine List.Mem.tail _ ?_)) hm) ?_, hsub, ?_, fun d hd => ?_, B.lo⟩
  · exact htr.sub (fun q => rfl) (Nat.le_refl _) fun z hz => by
      rcases List.mem_append.mp hz with hz | hz
      · exact List.mem_append_left _ (Ads.all_tail hz)
      · exact List.mem_append_right _ hz
  · rcases List.mem_cons.mp hd with rfl | hd
    · have hn := B.nodes par hpm
      (revert hn; rintro ⟨zq0, _, lo⟩; revert zq0; refine x0_2 ?_; intro a1; refine x7_1 ?_; intro g1 g2 g3 t1 t2 t3 tn a2)
      have stay : ∀ z o, z = par.x ∨ z = par.dx → (z, o) ∈ nw → (z, o) ∈ l' := fun z o hz hm => by
        have hzf : z ∈ par.foot := by rcases hz with h | h <;> simp [NdA.foot, h]
        refine hk _ hm ?_ (.inl (Ads.mem_foot hpm hzf))
        simp only [List.mem_cons, List.not_mem_nil, or_false, not_or]
        refine ⟨Ads.off B.nodup hpm (by first | with_reducible exact Ads.f1 _ | with_reducible exact Ads.f2 _ | with_reducible exact Ads.f3 _ | with_reducible exact Ads.f4 _ | with_reducible exact Ads.f5 _ | with_reducible exact Ads.f6 _ | with_reducible exact Ads.f7 _ | with_reducible exact Ads.f8 _ | simp [Ads.fix]) hzf, ?_, Ads.off B.nodup hpm (by first | with_reducible exact Ads.f1 _ | with_reducible exact Ads.f2 _ | with_reducible exact Ads.f3 _ | with_reducible exact Ads.f4 _ | with_reducible exact Ads.f5 _ | with_reducible exact Ads.f6 _ | with_reducible exact Ads.f7 _ | with_reducible exact Ads.f8 _ | simp [Ads.fix]) hzf⟩
        rcases hz with rfl | rfl
        · exact hfoot.1.2
        · exact hfoot.2.1
      exact ⟨⟨stay _ _ (.inl rfl) a1, g1, g2, g3, t1, t2, t3, tn, stay _ _ (.inr rfl) a2⟩, har, lo⟩
    · refine (B.nodes d (.tail _ (.tail _ hd))).mono fun p hp hz => hk p hp (fun hw => ?_) (.inl (Ads.mem_foot (.tail _ (.tail _ hd)) hz))
      simp only [List.mem_cons, List.not_mem_nil, or_false] at hw
      rcases hw with e | e | e
      · exact Ads.off B.nodup (.tail _ (.tail _ hd)) (by first | with_reducible exact Ads.f1 _ | with_reducible exact Ads.f2 _ | with_reducible exact Ads.f3 _ | with_reducible exact Ads.f4 _ | with_reducible exact Ads.f5 _ | with_reducible exact Ads.f6 _ | with_reducible exact Ads.f7 _ | with_reducible exact Ads.f8 _ | simp [Ads.fix]) hz e
      · exact Ads.apart hsub hd har' hz e
      · exact Ads.off B.nodup (.tail _ (.tail _ hd)) (by first | with_reducible exact Ads.f1 _ | with_reducible exact Ads.f2 _ | with_reducible exact Ads.f3 _ | with_reducible exact Ads.f4 _ | with_reducible exact Ads.f5 _ | with_reducible exact Ads.f6 _ | with_reducible exact Ads.f7 _ | with_reducible exact Ads.f8 _ | simp [Ads.fix]) hz e
  · refine tups_stay N (W := [G.nl, par.ar, G.tr]) (fun z hz => ?_) fun p hp hn hc => hk p hp hn (.inr hc)
    simp only [List.mem_cons, List.not_mem_nil, or_false] at hz
    rcases hz with rfl | rfl | rfl
    · exact B.cls_nl
    · exact (B.nodes par hpm).cls_ar
    · exact B.cls_tr
  · have := B.cnt
    simp only [List.length_cons] at this ⊢
    lia
  · rcases List.mem_cons.mp hd with rfl | hd
    · exact B.lt par hpm
    · exact B.lt d (.tail _ (.tail _ hd))
end
end Bat2
section Pure9
theorem setArc_last {cl : List (Nat × Nat)} {c t q : Nat} (h : (cl ++ [(c, t)]).Pairwise fun a b => a.1 < b.1) : setArc (cl ++ [(c, t)]) c q = cl ++ [(c, q)] := by
  have h1 : ∀ a ∈ cl, a.1 < c := fun a ha => (List.pairwise_append.mp h).2.2 a ha (c, t) (by simp)
  unfold setArc
  rw [if_pos (by simp)]
  rw [List.map_append]
  congr 1
  · conv => rhs; rw [← List.map_id cl]
    refine List.map_congr_left fun a ha => ?_
    have := h1 a ha
    rw [if_neg (by lia)]; rfl
  · simp
theorem setArc_new {cl : List (Nat × Nat)} {c q : Nat} (h : ∀ a ∈ cl, a.1 < c) : setArc cl c q = cl ++ [(c, q)] := by
  unfold setArc
  rw [if_neg]
  simp only [List.any_eq_true, decide_eq_true_eq, not_exists, not_and]
  intro a ha e
  have := h a ha
  lia
theorem setArc_mem : ∀ {as : List (Nat × Nat)} {c q : Nat}, as.Pairwise (fun a b => a.1 < b.1) → (c, q) ∈ as → setArc as c q = as := by
  intro as c q hp hm
  unfold setArc
  rw [if_pos (List.any_eq_true.mpr ⟨_, hm, by simp⟩)]
  conv => rhs; rw [← List.map_id as]
  refine List.map_congr_left fun a ha => ?_
  by_cases h : a.1 = c
  · rw [if_pos h]
    have : a.2 = q := by
      obtain ⟨a1, a2⟩ := a
      simp only at h
      subst h
      exact pw_key hp ha hm
    rw [← h, ← this]; rfl
  · rw [if_neg h]; rfl
theorem setArc_take {as : List (Nat × Nat)} (hp : as.Pairwise fun a b => a.1 < b.1) {i : Nat} {a : Nat × Nat} (h : as[i]? = some a) : setArc (as.take i) a.1 a.2 = as.take (i + 1) := by
  obtain ⟨hi, he⟩ := List.getElem?_eq_some_iff.mp h
  rw [setArc_new, List.take_add_one, h]
  · rfl
  · intro x hx
    (refine feed (List.mem_iff_getElem?.mp hx) ?_; refine x1_1 ?_; intro j hj)
    rw [List.getElem?_take] at hj
    split at hj
    · rename_i hji
      obtain ⟨hj', e⟩ := List.getElem?_eq_some_iff.mp hj
      have := List.pairwise_iff_getElem.mp hp j i hj' hi hji
      rw [e, he] at this
      exact this
    · cases hj
structure PInv (b : Bld) (N c : Nat) (nds : List Nd) (cs : List Nat) (Lang : List Nat → Prop) : Prop where
  ok : b.Ok N
  pok : b.POk nds cs []
  words : ∀ x, b.Words nds cs x ↔ Lang x
  len : ∀ x, Lang x → x.length = N
  nodup : (nds.map (·.n)).Nodup
  lt : ∀ nd ∈ nds, nd.n < c
  reg : ∀ q, b.Reg q → q < c
  live : cs ≠ [] → ∀ top rest, nds = top :: rest → top.fin = true ∨ top.arcs ≠ []
theorem Bld.POk.length {b : Bld} : ∀ {nds : List Nd} {cs pd}, b.POk nds cs pd → nds.length = cs.length + 1
  | nd :: rest, c :: cs, pd, h => by rw [List.length_cons, List.length_cons, Bld.POk.length h.2]
  | [nd], [], pd, h => rfl
  | nd :: nd' :: rest, [], pd, h => by exact h.elim
  | [], _, _, h => by exact h.elim
theorem Bld.NdOk.add {b : Bld} {n : Nat} {as : List (Nat × Nat)} {f : Bool} {nd : Nd} {pd : List (Nat × Nat)} (h : b.NdOk nd pd) (hn : nd.n ≠ n) : (b.add n as f).NdOk nd pd := by
  (revert h; refine x0_4 ?_; intro h1; refine x1_1 ?_; intro cl; refine x0_2 ?_; intro h2 h3; intro h4 h5)
  refine ⟨fun x => ?_, ⟨cl, h2, fun a ha => Bld.add_reg.2 (.inl (h3 a ha))⟩, h4, h5⟩
  rcases Bld.add_reg.1 x with x | x
  · exact h1 x
  · exact hn x
theorem Bld.POk.add {b : Bld} {n : Nat} {as : List (Nat × Nat)} {f : Bool} : ∀ {nds : List Nd} {cs pd}, b.POk nds cs pd → (∀ nd ∈ nds, nd.n ≠ n) → (b.add n as f).POk nds cs pd
  | nd :: rest, c :: cs, pd, h, hn => ⟨h.1.add (hn nd (by simp)), h.2.add fun x hx => hn x (.tail _ hx)⟩
  | [nd], [], pd, h, hn => Bld.NdOk.add h (hn nd (by simp))
  | nd :: nd' :: rest, [], pd, h, _ => by exact h.elim
  | [], _, _, h, _ => by exact h.elim
theorem Bld.POk.last {b : Bld} {nd : Nd} {rest : List Nd} {cs : List Nat} {pd : List (Nat × Nat)} (h : b.POk (nd :: rest) cs pd) : b.NdOk nd pd := by
  cases cs with
  | cons c cs => exact h.1
  | nil =>
    cases rest with
    | nil => exact h
    | cons _ _ => exact h.elim
theorem Bld.POk.relast {b : Bld} {nd nd' : Nd} {rest : List Nd} {cs : List Nat} {pd pd' : List (Nat × Nat)} (h : b.POk (nd :: rest) cs pd) (hn : nd'.n = nd.n) (h' : b.NdOk nd' pd') : b.POk (nd' :: rest) cs pd' := by
  cases cs with
  | cons c cs => exact ⟨h', by rw [hn]; exact h.2⟩
  | nil =>
    cases rest with
    | nil => exact h'
    | cons _ _ => exact h.elim
/-- the arcs of all open nodes lead to closed states or to the next open node -/
theorem Bld.POk.targets {b : Bld} : ∀ {nds : List Nd} {cs pd}, b.POk nds cs pd → ∀ nd ∈ nds, ∀ a ∈ nd.arcs, b.Reg a.2 ∨ a ∈ pd ∨ a.2 ∈ nds.map (·.n)
  | nd :: rest, c :: cs, pd, h, x, hx, a, ha => by
    rcases List.mem_cons.mp hx with rfl | hx
    · (refine feed (h.1.2.1) ?_; refine x1_1 ?_; intro cl; refine x0_2 ?_; intro e hr)
      rw [e] at ha
      rcases List.mem_append.mp ha with ha | ha
      · exact .inl (hr a ha)
      · exact .inr (.inl ha)
    · rcases Bld.POk.targets h.2 x hx a ha with h1 | h1 | h1
      · exact .inl h1
      · have : a = (c, nd.n) := by simpa using h1
        exact .inr (.inr (by simp [this]))
      · exact .inr (.inr (.tail _ h1))
  | [nd], [], pd, h, x, hx, a, ha => by
    have : x = nd := by simpa using hx
    subst this
    (refine feed (Bld.NdOk.elim3 h) ?_; refine x1_1 ?_; intro cl; refine x0_2 ?_; intro e hr)
    rw [e] at ha
    rcases List.mem_append.mp ha with ha | ha
    · exact .inl (hr a ha)
    · exact .inr (.inl ha)
  | nd :: nd' :: rest, [], pd, h, _, _, _, _ => by exact h.elim
  | [], _, _, h, _, _, _, _ => by exact h.elim
where
  Bld.NdOk.elim3 {b : Bld} {nd : Nd} {pd : List (Nat × Nat)} (h : b.NdOk nd pd) : ∃ cl, nd.arcs = cl ++ pd ∧ ∀ a ∈ cl, b.Reg a.2 := h.2.1
theorem Bld.NdOk.cl {b : Bld} {nd : Nd} {pd : List (Nat × Nat)} (h : b.NdOk nd pd) : ∃ cl, nd.arcs = cl ++ pd ∧ ∀ a ∈ cl, b.Reg a.2 := h.2.1
/-- the parts that the turn of add_suffix asks of the top -/
theorem PInv.top {b : Bld} {N c : Nat} {top : Nd} {rest : List Nd} {cs : List Nat} {Lang} (h : PInv b N c (top :: rest) cs Lang) : ¬ b.Reg top.n ∧ (∀ a ∈ top.arcs, b.Reg a.2) ∧ (top.arcs.Pairwise fun a b => a.1 < b.1) ∧ (top.fin = true → top.arcs = []) ∧ b.T top.n = [] ∧ b.F top.n = false := by
  have h1 := h.pok.last
  (refine feed (h1.cl) ?_; refine x1_1 ?_; intro cl; refine x0_2 ?_; intro e hr)
  rw [List.append_nil] at e
  exact ⟨h1.1, by rw [e]; exact hr, h1.2.2.1, h1.2.2.2, (h.ok.unreg _ h1.1).1, (h.ok.unreg _ h1.1).2⟩
theorem PInv.hit {b : Bld} {N c q : Nat} {top par : Nd} {rest : List Nd} {ci : Nat} {cs : List Nat} {Lang} (h : PInv b N c (top :: par :: rest) (ci :: cs) Lang) (hq : ((top.arcs, top.fin), q) ∈ b.seen) :
    PInv b N c (⟨par.n, setArc par.arcs ci q, par.fin⟩ :: rest) cs Lang ∧ (setArc par.arcs ci q).map (·.1) = par.arcs.map (·.1) ∧ (∀ a ∈ par.arcs, a.1 ≤ ci) := by
  (refine feed (h.top) ?_; refine x0_5 ?_; intro t1 t2 t3 t4 _)
  have hp := h.pok.2.last
  (refine feed (hp.cl) ?_; refine x1_1 ?_; intro cl; refine x0_2 ?_; intro e hr)
  have hpw := hp.2.2.1
  rw [e] at hpw
  have es : setArc par.arcs ci q = cl ++ [(ci, q)] := by rw [e]; exact setArc_last hpw
  have hR : b.Reg q := ⟨_, hq⟩
  have hkeys : (cl ++ [(ci, q)]).map (·.1) = (cl ++ [(ci, top.n)]).map (·.1) := by simp
  refine ⟨?_, by rw [es, e]; simp, fun a ha => ?_⟩
  · rw [es]
    refine ⟨h.ok, h.pok.2.relast rfl ⟨hp.1, ⟨cl ++ [(ci, q)], by simp, fun a ha => ?_⟩, ?_, fun hf => ?_⟩, fun x => ?_, h.len, (List.nodup_cons.mp h.nodup).2, fun nd hnd => ?_, h.reg, fun _ t r e' => ?_⟩
    · rcases List.mem_append.mp ha with ha | ha
      · exact hr a ha
      · have : a = (ci, q) := by simpa using ha
        rw [this]; exact hR
    · have := List.pairwise_map.mpr hpw
      rw [← hkeys] at this
      exact List.pairwise_map.mp this
    · have := hp.2.2.2 hf
      rw [e] at this; simp at this
    · rw [← h.words x]
      exact (Bld.words_hit h.ok e t1 t2 hq x).symm
    · rcases List.mem_cons.mp hnd with rfl | hnd
      · exact h.lt par (by simp)
      · exact h.lt nd (.tail _ (.tail _ hnd))
    · cases e'
      exact .inr (by simp)
  · rw [e] at ha
    rcases List.mem_append.mp ha with ha | ha
    · exact Nat.le_of_lt ((List.pairwise_append.mp hpw).2.2 a ha (ci, top.n) (by simp))
    · have : a = (ci, top.n) := by simpa using ha
      rw [this]; exact Nat.le_refl _
theorem Bld.words_top {b : Bld} {top : Nd} {rest : List Nd} {cs : List Nat} {u : List Nat} (h : b.LangR top u) : b.Words (top :: rest) cs (cs.reverse ++ u) := by
  cases cs with
  | nil => exact h
  | cons c cs => exact .inl ⟨u, rfl, h⟩
theorem PInv.lang_top {b : Bld} {N c : Nat} {top : Nd} {rest : List Nd} {cs : List Nat} {Lang} (h : PInv b N c (top :: rest) cs Lang) : ∀ u, b.Lang top.arcs top.fin u → cs.length + u.length = N := fun u hu => by
  have h1 := (h.words (cs.reverse ++ u)).1 (Bld.words_top ((Bld.LangR_lang h.top.2.1 u).2 hu))
  have := h.len _ h1
  simpa using this
theorem PInv.lang_live {b : Bld} {N c : Nat} {top : Nd} {rest : List Nd} {cs : List Nat} {Lang} (h : PInv b N c (top :: rest) cs Lang) (hl : top.fin = true ∨ top.arcs ≠ []) : ∃ u, b.Lang top.arcs top.fin u := by
  rcases hl with hl | hl
  · exact y1_1 ([]) hl
  · (refine feed (List.exists_mem_of_ne_nil _ hl) ?_; refine x1_1 ?_; intro a ha)
    (refine feed (h.ok.live _ (h.top.2.1 a ha)) ?_; refine x1_1 ?_; intro u hu)
    exact ⟨a.1 :: u, a.2, ha, hu⟩
theorem PInv.miss {b : Bld} {N c : Nat} {top par : Nd} {rest : List Nd} {ci : Nat} {cs : List Nat} {Lang} (h : PInv b N c (top :: par :: rest) (ci :: cs) Lang) :
    PInv (b.add top.n top.arcs top.fin) N c (par :: rest) cs Lang ∧ ∀ a ∈ par.arcs, a.1 ≤ ci := by
  (refine feed (h.top) ?_; refine x0_5 ?_; intro t1 t2 t3 t4 _)
  have hp := h.pok.2.last
  (refine feed (hp.cl) ?_; refine x1_1 ?_; intro cl; refine x0_2 ?_; intro e hr)
  have hpw := hp.2.2.1
  rw [e] at hpw
  have hnd := List.nodup_cons.mp h.nodup
  have hne : ∀ nd ∈ par :: rest, nd.n ≠ top.n := fun nd hm e => hnd.1 (List.mem_map.mpr ⟨nd, hm, e⟩)
  have hok : (b.add top.n top.arcs top.fin).Ok N := h.ok.add t1 t2 t3 t4 (h.lang_live (h.live (by simp) _ _ rfl)) fun u hu => by
    have := h.lang_top u hu
    simp only [List.length_cons] at this
    lia
  have hpadd := (Bld.POk.add h.pok.2 (as := top.arcs) (f := top.fin) hne)
  refine ⟨⟨hok, hpadd.relast rfl ⟨?_, ⟨par.arcs, by simp, fun a ha => ?_⟩, hp.2.2.1, hp.2.2.2⟩, fun x => ?_, h.len, hnd.2, fun nd hm => h.lt nd (.tail _ hm), fun q hq => ?_, fun _ t r e' => ?_⟩, fun a ha => ?_⟩
  · exact hpadd.last.1
  · rw [e] at ha
    rcases List.mem_append.mp ha with ha | ha
    · exact Bld.add_reg.2 (.inl (hr a ha))
    · have : a = (ci, top.n) := by simpa using ha
      rw [this]; exact Bld.add_reg.2 (.inr rfl)
  · rw [← h.words x]
    refine (Bld.words_miss h.ok e hr t1 t2 (fun nd hm a ha e' => ?_) x).symm
    have h2 := h.pok.2
    cases cs with
    | nil =>
      cases rest with
      | nil => cases hm
      | cons _ _ => exact h2.elim
    | cons c2 cs2 =>
      rcases Bld.POk.targets h2.2 nd hm a ha with h3 | h3 | h3
      · exact t1 (e' ▸ h3)
      · have : a = (c2, par.n) := by simpa using h3
        rw [this] at e'
        exact hne par (by simp) e'
      · rw [e'] at h3
        exact hnd.1 (.tail _ h3)
  · rcases Bld.add_reg.1 hq with hq | rfl
    · exact h.reg q hq
    · exact h.lt top (by simp)
  · cases e'
    exact .inr (by rw [e]; simp)
  · rw [e] at ha
    rcases List.mem_append.mp ha with ha | ha
    · exact Nat.le_of_lt ((List.pairwise_append.mp hpw).2.2 a ha (ci, top.n) (by simp))
    · have : a = (ci, top.n) := by simpa using ha
      rw [this]; exact Nat.le_refl _
theorem Bld.Ok.mono {b : Bld} {N M : Nat} (h : b.Ok N) (hm : N ≤ M) : b.Ok M := ⟨h.reg, h.tgt, h.asc, h.leaf, h.live, fun q hq u hu => Nat.lt_of_lt_of_le (h.short q hq u hu) hm, h.unreg⟩
/-- the root: no node like it was seen -/
theorem PInv.root_new {b : Bld} {N c : Nat} {top : Nd} {Lang} (h : PInv b N c [top] [] Lang) (hx : ∃ x, Lang x) : ∀ q, ((top.arcs, top.fin), q) ∉ b.seen := fun q hq => by
  (revert hx; refine x1_1 ?_; intro x hx)
  have h1 : b.LangR top x := (h.words x).2 hx
  have h2 := (h.ok.lang hq x).2 ((Bld.LangR_lang h.top.2.1 x).1 h1)
  have := h.ok.short q ⟨_, hq⟩ x h2
  have := h.len x hx
  lia
theorem PInv.root {b : Bld} {N c : Nat} {top : Nd} {Lang} (h : PInv b N c [top] [] Lang) (hx : ∃ x, Lang x) :
    (b.add top.n top.arcs top.fin).Ok (N + 1) ∧ ∀ x, (b.add top.n top.arcs top.fin).aut.Acc top.n x ↔ Lang x := by
  (refine feed (h.top) ?_; refine x0_5 ?_; intro t1 t2 t3 t4 _)
  refine ⟨(h.ok.mono (Nat.le_succ N)).add t1 t2 t3 t4 ?_ fun u hu => ?_, fun x => ?_⟩
  · (revert hx; refine x1_1 ?_; intro x hx)
    exact y1_1 x ((Bld.LangR_lang t2 x).1 ((h.words x).2 hx))
  · have := h.lang_top u hu
    simp only [List.length_nil] at this
    lia
  · rw [Bld.add_lang h.ok t1 t2, ← Bld.LangR_lang t2, ← h.words x]
    exact Iff.rfl
/-- where the arcs lead -/
noncomputable def Bld.Tg (b : Bld) (c : Nat) : Prop := ∀ q a, a ∈ b.T q → 0 < a.2 ∧ a.2 < c
theorem Bld.Ok.tlt {b : Bld} {N c : Nat} (h : b.Ok N) (hr : ∀ q, b.Reg q → q < c) (h0 : ¬ b.Reg 0) : b.Tg c := fun q a ha => by
  have key : b.Reg a.2 := by
    by_cases hq : b.Reg q
    · (revert hq; refine x1_1 ?_; intro k hk)
      rw [(h.reg k q hk).1] at ha
      exact h.tgt k q hk a ha
    · rw [(h.unreg q hq).1] at ha; cases ha
  refine ⟨?_, hr _ key⟩
  rcases Nat.eq_zero_or_pos a.2 with e | e
  · rw [e] at key; exact absurd key h0
  · exact e
theorem PInv.root_tg {b : Bld} {N c : Nat} {top : Nd} {rest : List Nd} {cs : List Nat} {Lang} (h : PInv b N c (top :: rest) cs Lang) (h0 : ¬ b.Reg 0) : (b.add top.n top.arcs top.fin).Tg c := fun q a ha => by
  have ha' : a ∈ if q = top.n then top.arcs else b.T q := ha
  split at ha'
  · have key := h.top.2.1 a ha'
    refine ⟨?_, h.reg _ key⟩
    rcases Nat.eq_zero_or_pos a.2 with e | e
    · rw [e] at key; exact absurd key h0
    · exact e
  · exact h.ok.tlt h.reg h0 q a ha'
end Pure9
section Arcs
local macro_rules | `(tactic| walk_at $s:str) => do
  let k := Lean.Syntax.mkStrLit ("Arcs:" ++ s.getString)
  `(tactic| k_extra $k)
local macro_rules | `(tactic| walk_at "zz") => `(tactic| skip)
noncomputable def sufFor : Stmt := match b20 with
  | [.While _ body _ _] => body.getLastD (.Pass default)
  | _ => .Pass default
theorem ArcsV.get : ∀ {kvs as}, ArcsV kvs as → ∀ {i : Nat} {k : Str} {v : Value}, kvs[i]? = some (k, v) → ∃ a t, as[i]? = some a ∧ k = ch a.1 ∧ v = .int (a.2 : Nat) t
  | kv :: kvs, a :: as, ⟨e, ⟨t, e2⟩, r⟩, 0, k, v, h => by
    have h' : kv = (k, v) := by simpa using h
    subst h'
    exact y2_1 a t (ya3 rfl e e2)
  | kv :: kvs, a :: as, ⟨_, _, r⟩, i + 1, k, v, h => by
    (refine feed (ArcsV.get r (i := i) (by simpa using h)) ?_; refine x2_1 ?_; intro b t; refine x0_2 ?_; intro h1 h2)
    exact y2_1 b t (ya2 (by simpa using h1) h2)
  | [], [], _, _, _, _, h => by simp at h
  | [], _ :: _, h, _, _, _, _ => h.elim
  | _ :: _, [], h, _, _, _, _ => h.elim
/-- how the arcs of a state grow along the loop -/
structure Grow (as t0 : List (Nat × Nat)) (f : Nat → List (Nat × Nat)) : Prop where
  zero : f 0 = t0
  step : ∀ i a, as[i]? = some a → setArc (f i) a.1 a.2 = f (i + 1)
  last : f as.length = as
  ne : ∀ i, 0 < i → i ≤ as.length → f i ≠ []
  len : ∀ i, i ≤ as.length → (f i).length ≤ as.length
theorem Grow.new {as : List (Nat × Nat)} (hp : as.Pairwise fun a b => a.1 < b.1) : Grow as [] (fun i => as.take i) :=
  ⟨by simp, fun i a h => setArc_take hp h, by simp, fun i h1 h2 h => by
    have := congrArg List.length h
    simp at this
    rcases this with h | h
    · lia
    · subst h; simp at h2; lia, fun i h => by simp; lia⟩
theorem Grow.old {as : List (Nat × Nat)} (hp : as.Pairwise fun a b => a.1 < b.1) : Grow as as (fun _ => as) :=
  ⟨rfl, fun i a h => setArc_mem hp (List.mem_of_getElem? h), rfl, fun i h1 h2 h => by
    subst h; simp at h2; lia, fun _ _ => Nat.le_refl _⟩
example : True := by
  (k_with "Arcs:call ref" => k_here; (with_reducible show wpAny _ _ (call (Value.ref 243) _) _ _ _); refine stop_of ?_)
  (k_with "Arcs:call ref" => k_here; (with_reducible show wpAny _ _ (call (Value.ref 63) _) _ _ _); refine wpAny_call ?_; k_dflt (refine' iteritems_spec (by walk_at "m_cx") (by k_asm) (by k_asm) (by walk_at "m_hh") (by k_mem) (by with_reducible assumption) (by with_reducible assumption) ?_); intro _ _ _ _ _ _; dsimp only)
  trivial
theorem arcs_loop : ∀ {w : World} {A : Around} {base : Heap} {outer : List Env} {s : Shared} {g : Heap} {L' : Addr} {m : Str → Option Value} {nw : Led} {lo mean mg mb} (tB : Below A base outer g) (XB : (K w.params).In base) (TB : Top topProg lo mean mg mb base) (tD : KtsDicts (outer.filterMap (·.frame)) g)
    (hdep : A.depth + 5 ≤ 360) (hun : A.units + 6 * 5 ≤ 400) (hh : A.handled = none) (F : Fr g L' s.heap m) (N : News g L' s.heap nw) {Q : Flow → Shared → Prop} {E : Value → Shared → Prop} {G : Ads} {top : NdA} {q : Nat} {tq : Tok} {T : Nat → List (Nat × Nat)} {k : Nat} {av : List Addr} {f : Nat → List (Nat × Nat)}
    (e1 : m "node" = some (.ref top.x)) (e2 : m "this" = some (.int q tq)) (e3 : m "dfa" = some (.ref G.x)) (hn : NodeIs w nw top) (hd : DfaAt nw G.x G.dx G.tr G.de G.fs G.ol) (hT : TransIs w nw G.tr T k av) (lo1 : (G.tr == sysModules) = false)
    (hav : ∀ z ∈ av, ∃ o, (z, o) ∈ nw) (a1 : G.tr ∈ av) (a2 : G.x ∈ av) (a3 : G.dx ∈ av) (a4 : top.ar ∈ av) (b2 : G.x ≠ G.tr) (b3 : G.dx ≠ G.tr) (b4 : top.ar ≠ G.tr) (gr : Grow top.nd.arcs (T q) f) (hk1 : k ≤ 2000) (hk2 : top.nd.arcs.length ≤ 100)
    (done : ∀ g' h' tk m' nw' k', TurnS A base outer g g' → Fr g' L' h' m' → News g' L' h' nw' → (∀ y : Str, y ≠ Str.ofString "label" → y ≠ Str.ofString "dest" → m' y = m y) → (∀ p ∈ nw, p.1 ≠ G.tr → p.1 ∈ av ∨ p.2.cls ≠ .type "dict" → p ∈ nw') →
      TransIs w nw' G.tr (upd T q top.nd.arcs) k' av → k' ≤ k + 1 → (T q = top.nd.arcs → k' ≤ k) → Q .next { s with heap := h', toks := tk })
    (hE : PassesOwn (model prog w) (A.deeper (envOf (Str.ofString "add_suffix") s20 L' 429 (.ref 428))) (envOf (Str.ofString "add_suffix") s20 L' 429 (.ref 428)) E),
    wpAny (model prog w) (A.deeper (envOf (Str.ofString "add_suffix") s20 L' 429 (.ref 428))) (exec sufFor (envOf (Str.ofString "add_suffix") s20 L' 429 (.ref 428))) Q E s := by
  intro w A base outer s g L' m nw lo mean mg mb tB XB TB tD hdep hun hh F N Q E G top q tq T k av f e1 e2 e3 hn hd hT lo1 hav a1 a2 a3 a4 b2 b3 b4 gr hk1 hk2 done hE
  (revert hn; rintro ⟨zq0, zq1, hlo⟩; revert zq0; refine x0_2 ?_; intro n1; refine x7_1 ?_; intro v1 v2 v3 t1 t2 t3 tn n2; revert zq1; refine x2_1 ?_; intro oar kv; refine x0_3 ?_; intro ha1 ha2 ha3)
  have hd' := hd
  (revert hd; refine x0_2 ?_; intro d1; refine x11_1 ?_; intro g1 g2 g3 g4 g5 u1 u2 u3 u4 u5 un d2)
  have hov : ∀ y, m y = over [(Str.ofString "node", .ref top.x), (Str.ofString "this", .int q tq), (Str.ofString "dfa", .ref G.x)] m y := over_self (by
    intro p hp
    simp only [List.mem_cons, List.not_mem_nil, or_false] at hp
    rcases hp with rfl | rfl | rfl
    · exact e1
    · exact e2
    · exact e3)
  replace F := fr_congr F hov
  have hov2 := fun y => (hov y).symm
  clear hov
  dsimp only [over] at F hov2
  have hA := tB.stack
  have XX := XB.keeps tB.stays
  have TT := TB.keeps tB.stays
  refine fillIt ?_
  k_fill
  intro _
  unfold sufFor
  dsimp only [b20, b20s, List.getLastD, List.getLast?, List.getLast]
  refine wpAny_For ?_
  w_strict (
    k_steps
    refine Stop.out ?_
    rename (AllLt _ nw) => hal
    refine items_iter (env := envOf (Str.ofString "add_suffix") s20 L' 429 (.ref 428)) (by assumption) (by assumption) (.head _) (.tail _ ha1) ha2 ?_
    intro h₁ it ep hep F₁ N₁ hal2
    have hlen := ha3.length
    have hcls : oar.cls = .type "dict" := by (revert ha2; refine x2_1 ?_; intro _ _; refine x0_2 ?_; intro hex _); exact hex.1
    have hnit : ∀ p ∈ nw, p.1 ≠ it := fun p hp => allLt_ne hal2 p (.tail _ hp)
    refine For_S (α := Unit) (fun _ => []) (fun y => y ∈ [Str.ofString "label", "dest"]) (fun n _ l => ∃ i ok ov k', n = top.nd.arcs.length - i ∧ i ≤ top.nd.arcs.length ∧ (it, itemsIt top.ar i kv.length ep ok ov) ∈ l ∧
      TransIs w l G.tr (upd T q (f i)) k' av ∧ k' ≤ k + 1 ∧ (i = 0 ∨ T q ≠ [] → k' ≤ k) ∧ ∀ p ∈ nw, p.1 ≠ G.tr → p.1 ∈ av ∨ p.2.cls ≠ .type "dict" → p ∈ l) () (top.nd.arcs.length - 0) ⟨.refl, tB, tD⟩ F₁ N₁ (fun _ hp => nomatch hp) ?_ ?_ hE
    · refine y4_1 0 .none .none k (ya7 rfl (Nat.zero_le _) (.head _) ?_ (Nat.le_succ k) (fun _ => Nat.le_refl _) (fun p hp _ _ => .tail _ (.tail _ hp)))
      refine (hT.mono fun p hp _ _ => .tail _ (.tail _ hp)).sub (fun q' => ?_) (Nat.le_refl _) fun _ h => h
      show (if q' = q then f 0 else T q') = T q'
      split
      · rename_i e; rw [gr.zero, e]
      · rfl
    · intro KW hKW
      (intro n _ g₁ m₁ nw₁ h₁ tk₁; refine TurnS.el ?_; intro tT tB' tD'; intro F₁ N₁; intro zz9; clear zz9; intro hm₁; refine x4_1 ?_; intro i ok ov k'; refine x0_7 ?_; intro zz9; subst zz9; intro hi hit hTi hk' hk0 hkp)
      have hNs : Stop (News g₁ L' h₁ nw₁) := Stop.out N₁
      have hA' := tB'.stack
      have XX' := XB.keeps tB'.stays
      have TT' := TB.keeps tB'.stays
      have har' := hkp _ ha1 b4 (.inl a4)
      have d1' := hkp _ d1 b2 (.inl a2)
      have d2' := hkp _ d2 b3 (.inl a3)
      refine items_next (o := oar) (kvs := kv) (knd := PySem.strKind prog w) hh rfl rfl rfl F₁ N₁ hit har' hep ?_ ?_
      · intro ky v key h₂ tk₂ hkv hkey F₂ N₂
        (refine feed (ha3.get hkv) ?_; refine x2_1 ?_; intro a t; refine x0_3 ?_; intro hat; intro zz9; subst zz9; intro zz9; subst zz9)
        (refine feed (Value.isStrOf_shape hkey) ?_; refine x1_1 ?_; intro tl; intro zz9; subst zz9)
        replace F₂ := frame_of (nms := [(Str.ofString "dest", .int (a.2 : Nat) t), (Str.ofString "label", .str (ch a.1) tl)]) (ls := []) F₂ (by
          intro p hp
          simp only [List.mem_cons, List.not_mem_nil, or_false] at hp
          rcases hp with rfl | rfl <;> rfl) (fun y _ hy => by
            have h1 := hy _ (.head _)
            have h2 := hy _ (.tail _ (.head _))
            exact ((if_neg h1).trans (if_neg h2)).trans (hm₁ y (by simp only [List.mem_cons, List.not_mem_nil, or_false, not_or]; exact ⟨h2, h1⟩) (fun _ hp => nomatch hp)))
        dsimp only [over, mask] at F₂
        have hne_it : ∀ {z o}, (z, o) ∈ nw → z ≠ it := fun hz => hnit _ hz
        have e1it := hne_it d1
        have e2it := hne_it d2
        k_steps
        refine Stop.out ?_
        refine wpAny_call ?_
        have hstay : ∀ {l : Led} {p : Addr × Obj}, p ∈ nw → p.1 ≠ G.tr → p.1 ∈ av ∨ p.2.cls ≠ .type "dict" → p ∈ put it (itemsIt top.ar (i + 1) kv.length ep (Value.str (ch a.1) tl) (Value.int (a.2 : Nat) t)) nw₁ := fun hp h1 h2 => mem_put_of (hkp _ hp h1 h2) (hnit _ hp)
        have htrn : it ≠ G.tr := fun e => by
          (refine feed (hav _ a1) ?_; refine x1_1 ?_; intro o ho)
          exact hnit _ ho e.symm
        have hfi : T q ≠ [] ∨ 0 < i → f i ≠ [] := fun h => by
          by_cases h0 : i = 0
          · subst h0
            rw [gr.zero]
            rcases h with h | h
            · exact h
            · lia
          · exact gr.ne i (by lia) hi
        have hTi' : TransIs w (put it (itemsIt top.ar (i + 1) kv.length ep (Value.str (ch a.1) tl) (Value.int (a.2 : Nat) t)) nw₁) G.tr (upd T q (f i)) k' av := hTi.mono fun p hp hc _ => mem_put_of hp (fun e => by
          obtain ⟨p1, p2⟩ := p
          simp only at e hc
          subst e
          have := same_at (stop_of hNs) hp hit
          rw [this] at hc
          simp at hc)
        refine addT_spec ?mc (by assumption) (by assumption) (hd'.mono (fun o hm => hstay (l := nw) hm b2 (.inl a2)) (fun o hm => hstay (l := nw) hm b3 (.inl a3))) hTi' a1 ?hav lo1 ?z1 ?z2 ?fin
        case mc => walk_at "m_cx"
        case hav =>
          intro z hz
          by_cases hzt : z = G.tr
          · subst hzt
            (revert hTi'; refine x2_1 ?_; intro ot _; refine x0_2 ?_; intro hot _)
            exact y1_1 ot hot
          · (refine feed (hav z hz) ?_; refine x1_1 ?_; intro o ho)
            exact y1_1 o (hstay (l := nw) ho hzt (.inl hz))
        case z1 => lia
        case z2 =>
          have := gr.len i hi
          show (if q = q then f i else T q).length ≤ 10000
          rw [if_pos rfl]
          lia
        case fin =>
          intro h₃ tk₃ nw₃ F₃ N₃ K₃ T₃
          dsimp only
          k_steps
          have hup : upd T q (f i) q = f i := if_pos rfl
          rw [hup] at T₃
          have hilt := (List.getElem?_eq_some_iff.mp hat).1
          refine hKW _ _ _ ?_
          refine WPost.intro () (top.nd.arcs.length - (i + 1)) ⟨tT, tB', tD'⟩ (by assumption) (by assumption) (fun _ hp => nomatch hp) (fun y hy _ => ?_) (by lia) ⟨i + 1, _, _, _, rfl, by lia, K₃ _ mem_put htrn (.inr (by simp)), T₃.sub (fun q' => ?_) (Nat.le_refl _) (fun _ h => h), ?_, ?_, fun p hp h1 h2 => K₃ _ (hstay (l := nw) hp h1 h2) h1 h2⟩
          · simp only [List.mem_cons, List.not_mem_nil, or_false, not_or] at hy
            rw [if_neg hy.2, if_neg hy.1]
          · show (if q' = q then f (i + 1) else T q') = if q' = q then setArc (f i) a.1 a.2 else upd T q (f i) q'
            by_cases e : q' = q
            · rw [if_pos e, if_pos e, gr.step i a hat]
            · rw [if_neg e, if_neg e]
              show T q' = if q' = q then f i else T q'
              rw [if_neg e]
          · split
            · rename_i hfe
              have h0 : i = 0 := by
                by_cases h0 : i = 0
                · exact h0
                · exact absurd hfe (hfi (.inr (by lia)))
              have := hk0 (.inl h0)
              lia
            · exact hk'
          · intro h
            rcases h with h | h
            · lia
            · rw [if_neg (hfi (.inl h))]
              exact hk0 (.inr h)
      · intro h₂ hnone F₂ N₂
        have hi' : i = top.nd.arcs.length := by
          have := List.getElem?_eq_none_iff.mp hnone
          lia
        subst hi'
        have htrn : it ≠ G.tr := fun e => by
          (refine feed (hav _ a1) ?_; refine x1_1 ?_; intro o ho)
          exact hnit _ ho e.symm
        refine wpAny_execs_nil ?_
        refine done g₁ h₂ _ m₁ _ k' ⟨tT, tB', tD'⟩ F₂ N₂ (fun y h1 h2 => ?_) (fun p hp h1 h2 => mem_del_of (hkp _ hp h1 h2) (hnit _ hp)) ((hTi.mono fun p hp hc _ => mem_del_of hp (fun e => ?_)).sub (fun q' => ?_) (Nat.le_refl _) fun _ h => h) hk' (fun hT => ?_)
        · rw [hm₁ y (by simp only [List.mem_cons, List.not_mem_nil, or_false, not_or]; exact ⟨h1, h2⟩) (fun _ hp => nomatch hp)]
          exact hov2 y
        · obtain ⟨p1, p2⟩ := p
          simp only at e hc
          subst e
          have := same_at (stop_of hNs) hp hit
          rw [this] at hc
          simp at hc
        · rw [gr.last]
        · by_cases h0 : top.nd.arcs.length = 0
          · exact hk0 (.inl h0)
          · exact hk0 (.inr (by rw [hT]; intro e; rw [e] at h0; exact h0 rfl)))
end Arcs
section Suf1
local macro_rules | `(tactic| walk_at $s:str) => do
  let k := Lean.Syntax.mkStrLit ("Suf1:" ++ s.getString)
  `(tactic| k_extra $k)
/-- the state of add_suffix's loop -/
noncomputable def SufJ (w : World) (G : Ads) (c N kk : Nat) (lst : List Nat) (dn : Nat) (Lang : List Nat → Prop) (ex al : List Addr) (n : Nat) (l : Led) : Prop :=
  (∃ nds b cs, n = nds.length ∧ dn ≤ n ∧ BAt w l G nds b c ex ∧ (∀ z ∈ G.all nds, z ∈ al) ∧ PInv b N c (nds.map (·.nd)) cs Lang ∧ cs.reverse = lst.take cs.length ∧ cs.length ≤ lst.length ∧ (nds.map (·.nd.n)).getLast? = some 0 ∧
    (∀ d ∈ nds, d.nd.arcs.length ≤ kk) ∧ (∀ q, (b.T q).length ≤ kk) ∧ (nds.length ≤ lst.length → ∀ top rest, nds = top :: rest → ∀ a ∈ top.nd.arcs, ∃ d, lst[nds.length - 1]? = some d ∧ a.1 ≤ d)) ∨
  (n = 0 ∧ dn = 0 ∧ ∃ b, BAt w l G [] b c ex ∧ b.Ok (N + 1) ∧ (∀ q, (b.T q).length ≤ kk) ∧ b.Tg c ∧ ∀ x, b.aut.Acc 0 x ↔ Lang x)
example : True := by
  (k_with "Suf1:exec While" => refine stop_of ?_)
  (k_with "Suf1:exec For" => refine stop_of ?_)
  (k_with "Suf1:call builtin:len" => k_here; (with_reducible show wpAny _ _ (call (Value.builtin "len") [Value.ref _]) _ _ _); k_dflt (refine' len_list_M (by k_asm) (by k_mem) (by with_reducible assumption) ?_); intro _ _)
  (k_with "Suf1:getMethod ref" => k_here; (with_reducible show wpAny _ _ (getMethod (Value.ref _) (Str.ofString "pop") _) _ _ _); k_dflt (refine' kl_method (by k_asm) (by k_mem) PySem.F.slot_list_pop PySem.F.type_list_pop ?_))
  (k_with "Suf1:subscriptTail" => k_here; (with_reducible show wpAny _ _ (subscriptTail _ _ (Value.ref _) (Value.ref _)) _ _ _); refine stop_of ?_)
  (k_with "Suf1:call ref" => k_here; (with_reducible show wpAny _ _ (call (Value.ref 257) _) _ _ _); refine stop_of ?_)
  (k_with "Suf1:setItem ref ref" => k_here; refine stop_of ?_)
  (k_with "Suf1:call ref" => k_here; (with_reducible show wpAny _ _ (call (Value.ref 348) _) _ _ _); refine wpAny_call ?_; k_dflt (refine' node_tuple_spec (by walk_at "m_cx") (by k_asm) (by k_asm) (by walk_at "m_hh") ⟨by k_mem, _, _, _, _, _, _, _, by k_mem⟩ (by k_mem) (by with_reducible assumption) (by with_reducible assumption) (by with_reducible assumption) (by with_reducible assumption) ?_); intro _ _ _ _ _ _ _; dsimp only)
  (k_with "Suf1:call builtin:list.pop" => k_here; (with_reducible show wpAny _ _ (call (Value.builtin "list.pop") [Value.ref _]) _ _ _); k_dflt (refine' pop_M (by k_asm) (by k_asm) (by k_mem) (by with_reducible assumption) ?_); intro _ _ _)
  trivial
theorem sub_last_M {w : World} {A : Around} {E : Value → Shared → Prop} {s : Shared} {h₀ : Heap} {L d : Addr} {nw : Led} {its : List Value} {y : Value} {c : Nat} {t : Tok} {value slice : Expr} {Q : Value → Shared → Prop} (N : News h₀ L s.heap nw) (hp : (d, listOf (its ++ [y]).toArray c) ∈ nw) (hz : (its ++ [y]).length < 1000)
    (h : Q y s) (hs : subscripted slice false (.ref d) (.int (-1) t) = operate [.ref d, .int (-1) t] (getItem (.ref d) (.int (-1) t)) := by with_unfolding_all rfl) : wpAny (model prog w) A (subscriptTail value slice (.ref d) (.int (-1) t)) Q E s := by
  have hl' := News.isList N hp
  refine tail_any hl'.typeIs PySem.slot_list_getitem.lookup (wpAny_getItem_list_neg hl' (by lia) ?_ (by lia) (x := y) ?_ h) hs
  · simp only [List.size_toArray, List.length_append, List.length_cons, List.length_nil]; lia
  · have e : (-1 + (((its ++ [y]).toArray.size : Nat) : Int)).toNat = its.length := by simp only [List.size_toArray, List.length_append, List.length_cons, List.length_nil]; lia
    rw [e]; simp
theorem str_sub_M {w : World} {A : Around} {E : Value → Shared → Prop} {s : Shared} {x : Str} {t u : Tok} {i : Int} {c : Nat} {value slice : Expr} {Q : Value → Shared → Prop} (h0 : 0 ≤ i) (hc : x.cps.toList[i.toNat]? = some c) (hz : x.cps.toList.length < 1000)
    (h : ∀ t' tk, Q (.str (ch c) t') { s with toks := tk })
    (hs : subscripted slice false (.str x t) (.int i u) = operate [.str x t, .int i u] (getItem (.str x t) (.int i u)) := by with_unfolding_all rfl)
    (ht : ∀ r, letTemporaryGo value (.str x t) r = pure () := by intro _; with_unfolding_all rfl) : wpAny (model prog w) A (subscriptTail value slice (.str x t) (.int i u)) Q E s := by
  have hl := (List.getElem?_eq_some_iff.mp hc).1
  have hx : x.length = x.cps.toList.length := by simp [Str.length]
  refine PySem.W.KXi.item (n := x.cps.toList.length) hx (by lia) (by lia) (by lia) (fun _ => ?_) hs ht
  have e : Txt.item x i = ch c := item_meets h0 (by simpa using hc)
  rw [e]
  exact h _ _
example : True := by
  (k_with "Suf1:subscriptTail" => k_here; (with_reducible show wpAny _ _ (subscriptTail _ _ (Value.ref _) (Value.int _ _)) _ _ _); k_dflt (refine' sub_last_M (by k_asm) (by k_mem) (by with_reducible assumption) ?_))
  (k_with "Suf1:subscriptTail" => k_here; (with_reducible show wpAny _ _ (subscriptTail _ _ (Value.str _ _) (Value.int _ _)) _ _ _); refine stop_of ?_)
  (k_with "Suf1:setItem ref str" => k_here; (with_reducible show wpAny _ _ (setItem (Value.ref _) (Value.str _ _) _) _ _ _); k_dflt (refine' setItem_M (knd := PySem.strKind prog _) (by k_asm) (by k_asm) (by k_mem) (by with_reducible assumption) (strKind_is _ _ _ _) (by with_reducible assumption) ?_); intro _ _ _ _ _)
  (k_with "Suf1:call ref" => k_here; (with_reducible show wpAny _ _ (call (Value.ref 63) _) _ _ _); refine wpAny_call ?_; k_dflt (refine' iteritems_spec (by walk_at "m_cx") (by k_asm) (by k_asm) (by walk_at "m_hh") (by k_mem) (by with_reducible assumption) (by with_reducible assumption) ?_); intro _ _ _ _ _ _; dsimp only)
  trivial
theorem led_hit {g h : Heap} {L a c : Addr} {o ob : Obj} {T nw : Led} (N : News g L h (put a o (T ++ put c ob nw))) (hac : c ≠ a) : ∃ l, News g L h l ∧ (∀ p ∈ nw, p.1 ≠ c → p.1 ≠ a → p ∈ l) ∧ (a, o) ∈ l ∧ (c, ob) ∈ l :=
  ⟨_, N, fun p hp h1 h2 => mem_put_of (List.mem_append_right _ (mem_put_of hp h1)) h2, mem_put, mem_put_of (List.mem_append_right _ mem_put) hac⟩
theorem led_set4 {g h : Heap} {L c : Addr} {ob : Obj} {l : Led} (N : News g L h (put c ob l)) : ∃ l', News g L h l' ∧ (∀ p ∈ l, p.1 ≠ c → p ∈ l') ∧ (c, ob) ∈ l' ∧ l' = put c ob l :=
  ⟨_, N, fun p hp h1 => mem_put_of hp h1, mem_put, rfl⟩
theorem led_miss {g h : Heap} {L c : Addr} {ob : Obj} {T nw : Led} (N : News g L h (T ++ put c ob nw)) : ∃ l, News g L h l ∧ (∀ p ∈ put c ob nw, p ∈ l) ∧ ∀ p ∈ T, p ∈ l :=
  ⟨_, N, fun p hp => List.mem_append_right _ hp, fun p hp => List.mem_append_left _ hp⟩
theorem suffix_spec : ∀ {w : World} {A A₀ : Around} {base : Heap} {outer : List Env} {s : Shared} {h₀ : Heap} {L : Addr} {m : Str → Option Value} {nw : Led} (C : CxS w A A₀ base outer h₀ L 5) (F : Fr h₀ L s.heap m) (N : News h₀ L s.heap nw)
    (hh : A.handled = none) {R : Result → Shared → Prop} {G : Ads} {last : Str} {tl td : Tok} {dn c NN kk : Nat} {Lang : List Nat → Prop} {ex al : List Addr} {n₀ : Nat} (J : SufJ w G c NN kk last.cps.toList dn Lang ex al n₀ nw) (hex : ∀ z ∈ ex, (∃ o, (z, o) ∈ nw) ∧ z ∉ al) (hc : c ≤ 900) (hkk : kk ≤ 60) (hlz : last.cps.toList.length < 1000) (hL : dn = 0 → ∃ x, Lang x)
    (_h : ∀ h₀' h' tk' nw' n', TurnS A₀ base outer h₀ h₀' → Fr h₀' L h' m → News h₀' L h' nw' → n' ≤ dn → SufJ w G c NN kk last.cps.toList dn Lang ex al n' nw' → (∀ p ∈ nw, p.1 ∉ al → p.1 ∈ ex ∨ p.2.cls ≠ .type "dict" → p ∈ nw') → R (.ok (.ret .none)) ⟨h', s.gens, s.drawn, tk', s.os⟩),
    codeAny (model prog w) A (.call (.ref 429) ⟨[.ref G.x, .ref G.nl, .str last tl, .int dn td, .ref G.se], []⟩) R s := by
  intro w A A₀ base outer s h₀ L m nw
  refine CxS.el ?_
  intro XB lo mean mg mb TB B D cn cs a ccd hA hck hdep hun F N hh R G last tl td dn c NN kk Lang ex al n₀ J hex hc hkk hlz hL h
  have X₀ := XB.keeps B.stays
  have T := TB.keeps B.stays
  refine fillIt ?_
  k_fill
  intro _
  w_strict (
    walk_at "m_enterS"
    intro g' L' h' FG' F' N' B' X' T' D'
    (try dsimp only [b20, b20s])
    k_fold
    refine fr_open [(Str.ofString "dfa", .ref G.x), (Str.ofString "nodes", .ref G.nl), (Str.ofString "last", .str last tl), (Str.ofString "downto", .int dn td), (Str.ofString "seen", .ref G.se)] F' (by walk_at "m_names") ?_
    clear F'
    intro m0 F'
    dsimp only [over] at F'
    k_steps
    refine Stop.out ?_
    refine While_S (α := Unit) (fun _ => []) (fun y => y ∈ [Str.ofString "node", "tup", "this", "parent", "inlabel", "label", "dest"]) (fun n _ l => SufJ w G c NN kk last.cps.toList dn Lang ex al n l ∧ ∀ p ∈ nw, p.1 ∉ al → p.1 ∈ ex ∨ p.2.cls ≠ .type "dict" → p ∈ l) () n₀ ⟨.refl, B', D'⟩ F' N' (fun _ hp => nomatch hp) ⟨J, fun _ hp _ _ => hp⟩ ?_
    intro KW hKW
    (intro n _ g₁ m₁ nw₁ h₁ tk₁; refine TurnS.el ?_; intro tT tB tD; intro F₁ N₁; intro zz9; clear zz9; intro hm₁; refine x0_2 ?_; intro J₁ hkeep)
    have XX := XB.keeps tB.stays
    have TT := TB.keeps tB.stays
    refine frame_at (nms := []) (nmo := [(Str.ofString "dfa", .ref G.x), (Str.ofString "nodes", .ref G.nl), (Str.ofString "last", .str last tl), (Str.ofString "downto", .int dn td), (Str.ofString "seen", .ref G.se)]) (ls := [Str.ofString "node", "tup", "this", "parent", "inlabel", "label", "dest"]) [] [Str.ofString "dfa", "nodes", "last", "downto", "seen"] F₁ (fun _ hp => nomatch hp) hm₁ (by walk_at "m_names") rfl rfl (by decide) ?_
    clear F₁
    intro mA F₁ hmA
    dsimp only [over] at F₁
    rcases J₁ with J₁ | J₁
    · (revert J₁; refine x3_1 ?_; intro nds b cs; refine x0_11 ?_; intro zz9; subst zz9; intro hdn Bt hal P hcs hcl hroot hsm1 hsm2 hlow)
      have hN : Stop (News g₁ L' h₁ nw₁) := Stop.out N₁
      (refine feed (Bt.nl) ?_; refine x1_1 ?_; intro k hnl)
      have hlen := P.pok.length
      cases nds with
      | nil => simp at hlen
      | cons top rest =>
      have hlt : ((rest.reverse.map fun d => Value.ref d.x) ++ [Value.ref top.x]).length < 1000 := by
        have := Bt.cnt
        simp only [List.length_append, List.length_map, List.length_reverse, List.length_cons, List.length_nil] at this ⊢
        lia
      have hz : (rest.reverse.map fun d => Value.ref d.x).length + 1 ≤ sizeLine := by
        have := sizeLine_eq
        simp only [List.length_append] at hlt
        simp only [List.length_cons, List.length_nil] at hlt
        lia
      rw [List.reverse_cons, List.map_append] at hnl
      simp only [List.map_cons, List.map_nil] at hnl
      (refine feed (Bt.nodes top (.head _)) ?_; rintro ⟨zq0, zq1, hlo⟩; revert zq0; refine x0_2 ?_; intro n1; refine x7_1 ?_; intro v1 v2 v3 t1 t2 t3 tn n2; revert zq1; refine x2_1 ?_; intro oar kv; refine x0_3 ?_; intro ha1 ha2 ha3)
      have there : ∀ z ∈ G.all (top :: rest) ++ ex, ∃ o, (z, o) ∈ nw₁ := fun z hz => by
        rcases List.mem_append.mp hz with hz | hz
        · exact Bt.there z hz
        · (refine feed (hex z hz) ?_; refine x0_2 ?_; refine x1_1 ?_; intro o ho; intro ha)
          exact y1_1 o (hkeep _ ho ha (.inl hz))
      have hfo : ∀ z ∈ top.foot, z ≠ G.nl := fun z hz => Ads.off Bt.nodup (.head _) (by first | with_reducible exact Ads.f1 _ | with_reducible exact Ads.f2 _ | with_reducible exact Ads.f3 _ | with_reducible exact Ads.f4 _ | with_reducible exact Ads.f5 _ | with_reducible exact Ads.f6 _ | with_reducible exact Ads.f7 _ | with_reducible exact Ads.f8 _ | simp [Ads.fix]) hz
      have hne1 : top.x ≠ G.nl := hfo _ (by first | with_reducible exact NdA.f1 _ | with_reducible exact NdA.f2 _ | with_reducible exact NdA.f3 _ | simp [NdA.foot])
      have hne2 : top.dx ≠ G.nl := hfo _ (by first | with_reducible exact NdA.f1 _ | with_reducible exact NdA.f2 _ | with_reducible exact NdA.f3 _ | simp [NdA.foot])
      have hne3 : top.ar ≠ G.nl := hfo _ (by first | with_reducible exact NdA.f1 _ | with_reducible exact NdA.f2 _ | with_reducible exact NdA.f3 _ | simp [NdA.foot])
      (refine feed (P.top) ?_; refine x0_6 ?_; intro p1 p2 p3 p4 p5 p6)
      have h64 : kv.length < 64 := by
        have := hsm1 top (.head _)
        rw [ha3.length]; lia
      have hsrt := ha3.sorted p3
      k_steps
      · refine Stop.out ?_
        rename (IsKey _ _ _ _) => hkey
        rename (News _ _ _ (_ ++ put _ _ _)) => N2
        have hsk := hkey.seenL ha3
        (refine feed (Bt.se) ?_; refine x2_1 ?_; intro ose xs; refine x0_3 ?_; intro hse1 hse2 hse3)
        have hff := Ads.fix_nodup Bt.nodup
        replace hff := Ads.fix_ne hff
        (revert hff; refine x0_8 ?_; refine x0_7 ?_; intro f1 f2 f3 f4 f5 f6 f7; refine x0_6 ?_; intro e2 e3 e4 e5 e6 e7; refine x0_5 ?_; intro d3 d4 d5 d6 d7; refine x0_4 ?_; intro c4 c5 c6 c7; refine x0_3 ?_; intro b5 b6 b7; refine x0_2 ?_; intro a6 a7; intro z7 _)
        have hnese : G.se ≠ G.nl := Ne.symm z7
        have htup : ∀ a xs, (a, tupObj xs) ∈ nw₁ → (a, tupObj xs) ∈ put G.nl (listOf (rest.reverse.map fun d => Value.ref d.x).toArray (k + 1)) nw₁ := tup_keep (stop_of hN) hnl (by simp) keep_put
        have hu : A.units + 3 + 30 < cLine := by have := cLine_is; lia
        by_cases hq : ∃ q, ((top.nd.arcs, top.nd.fin), q) ∈ b.seen
        · (revert hq; refine x1_1 ?_; intro q₀ hq)
          (refine feed (hse3.at_some hq) ?_; refine x3_1 ?_; intro q a2 t2; refine x0_2 ?_; intro hm hat)
          cases rest with
          | nil =>
            rename (((dn : Nat) : Int) < _) => hgt
            simp only [List.length_append, List.length_map, List.length_reverse, List.length_cons, List.length_nil] at hgt
            exact absurd hm (PInv.root_new (by have e : cs = [] := by simpa using hlen
                                               subst e; exact P) (hL (by lia)) q)
          | cons par rest =>
          cases cs with
          | nil => simp at hlen
          | cons ci cs =>
          have hci : last.cps.toList[cs.length]? = some ci := by
            have : (last.cps.toList.take (cs.length + 1))[cs.length]? = some ci := by
              rw [← List.length_cons (a := ci), ← hcs]; simp
            rw [List.getElem?_take] at this
            simpa using this
          simp only [List.reverse_cons, List.map_append, List.map_cons, List.map_nil] at N2 htup hlt hz
          have hlt2 : ((rest.reverse.map fun d => Value.ref d.x) ++ [Value.ref par.x]).length < 1000 := by
            simp only [List.length_append, List.length_cons, List.length_nil] at hlt ⊢
            lia
          (refine feed (Bt.nodes par (.tail _ (.head _))) ?_; rintro ⟨zq0, zq1, hlop⟩; revert zq0; refine x0_2 ?_; intro m1; refine x7_1 ?_; intro v1' v2' v3' t1' t2' t3' tn' m2; revert zq1; refine x2_1 ?_; intro oap kvp; refine x0_3 ?_; intro hp1 hp2 hp3)
          have hpo : ∀ z ∈ par.foot, z ≠ G.nl := fun z hz => Ads.off Bt.nodup (.tail _ (.head _)) (by first | with_reducible exact Ads.f1 _ | with_reducible exact Ads.f2 _ | with_reducible exact Ads.f3 _ | with_reducible exact Ads.f4 _ | with_reducible exact Ads.f5 _ | with_reducible exact Ads.f6 _ | with_reducible exact Ads.f7 _ | with_reducible exact Ads.f8 _ | simp [Ads.fix]) hz
          have hpe1 : par.x ≠ G.nl := hpo _ (by first | with_reducible exact NdA.f1 _ | with_reducible exact NdA.f2 _ | with_reducible exact NdA.f3 _ | simp [NdA.foot])
          have hpe2 : par.dx ≠ G.nl := hpo _ (by first | with_reducible exact NdA.f1 _ | with_reducible exact NdA.f2 _ | with_reducible exact NdA.f3 _ | simp [NdA.foot])
          have hpe3 : par.ar ≠ G.nl := hpo _ (by first | with_reducible exact NdA.f1 _ | with_reducible exact NdA.f2 _ | with_reducible exact NdA.f3 _ | simp [NdA.foot])
          refine seen_item (A := A.deeper _) hu N2 (List.mem_append_right _ (mem_put_of hse1 hnese)) (hse2.mono fun a xs hm => List.mem_append_right _ (htup a xs hm)) (hsk.mono fun a xs hm => List.mem_append_left _ hm) hat ?_
          intro tk3
          dsimp only
          have hpz : kvp.length ≤ sizeLine := by
            have := sizeLine_eq
            have := hsm1 par (.tail _ (.head _))
            rw [hp3.length]; lia
          have hsub := Ads.sub Bt.nodup
          have hap1 : top.x ≠ par.ar := Ne.symm (Ads.apart Bt.nodup (.head _) (by first | with_reducible exact NdA.f1 _ | with_reducible exact NdA.f2 _ | with_reducible exact NdA.f3 _ | simp [NdA.foot]) (by first | with_reducible exact NdA.f1 _ | with_reducible exact NdA.f2 _ | with_reducible exact NdA.f3 _ | simp [NdA.foot]))
          have hap2 : top.dx ≠ par.ar := Ne.symm (Ads.apart Bt.nodup (.head _) (by first | with_reducible exact NdA.f1 _ | with_reducible exact NdA.f2 _ | with_reducible exact NdA.f3 _ | simp [NdA.foot]) (by first | with_reducible exact NdA.f1 _ | with_reducible exact NdA.f2 _ | with_reducible exact NdA.f3 _ | simp [NdA.foot]))
          have hap : top.ar ≠ par.ar := Ne.symm (Ads.apart Bt.nodup (.head _) (by first | with_reducible exact NdA.f1 _ | with_reducible exact NdA.f2 _ | with_reducible exact NdA.f3 _ | simp [NdA.foot]) (by first | with_reducible exact NdA.f1 _ | with_reducible exact NdA.f2 _ | with_reducible exact NdA.f3 _ | simp [NdA.foot]))
          k_steps
          refine Stop.out ?_
          refine str_sub_M (c := ci) (by simp only [List.length_append, List.length_cons, List.length_nil]; lia) (by
            have e : (((List.map (fun d => Value.ref d.x) rest.reverse ++ [Value.ref par.x]).length : Int) - 1).toNat = cs.length := by
              simp only [List.length_append, List.length_map, List.length_reverse, List.length_cons, List.length_nil] at hlen ⊢
              lia
            rw [e]; exact hci) hlz ?_
          intro t4 tk4
          dsimp only
          k_steps
          refine Stop.out ?_
          rename (Obj.IsDictOf (PySem.strKind _ _) _ (stored kvp _ _)) => hdp
          rename (News _ _ _ (put par.ar _ _)) => N3
          rename (((dn : Nat) : Int) < _) => hgt
          have hparf : ∀ z, z ∈ G.fix → z ≠ par.ar := fun z hz e => Ads.off Bt.nodup (.tail _ (.head _)) hz (by first | with_reducible exact NdA.f1 _ | with_reducible exact NdA.f2 _ | with_reducible exact NdA.f3 _ | simp [NdA.foot]) e.symm
          (refine feed (led_hit N3 (hparf _ (by first | with_reducible exact Ads.f1 _ | with_reducible exact Ads.f2 _ | with_reducible exact Ads.f3 _ | with_reducible exact Ads.f4 _ | with_reducible exact Ads.f5 _ | with_reducible exact Ads.f6 _ | with_reducible exact Ads.f7 _ | with_reducible exact Ads.f8 _ | simp [Ads.fix]))) ?_; refine x1_1 ?_; intro l₂; refine x0_4 ?_; intro N4 stay hma hmn)
          have hpa : par.ar ∈ G.all (top :: par :: rest) ++ ex := List.mem_append_left _ <| Ads.mem_foot (.tail _ (.head _)) (by first | with_reducible exact NdA.f1 _ | with_reducible exact NdA.f2 _ | with_reducible exact NdA.f3 _ | simp [NdA.foot])
          have hfx : ∀ z ∈ G.fix, z ∈ G.all (top :: par :: rest) ++ ex := fun z hz => List.mem_append_left _ (Ads.mem_fix hz)
          have hTq : b.T q = top.nd.arcs := (P.ok.reg _ _ hm).1
          have stay2 : ∀ p ∈ nw₁, p.1 ∈ G.fix → p.1 ≠ G.nl → p ∈ l₂ := fun p hp hz h1 => stay p hp h1 (hparf _ hz)
          refine (show wpAny _ _ (exec sufFor _) _ _ _ from ?_)
          refine arcs_loop (T := b.T) (k := b.seen.length) (av := G.all (top :: par :: rest) ++ ex) (q := q) (G := G) (top := top) tB XB TB tD hdep hun hh (by assumption) N4 rfl rfl rfl ?hn ?hd ?hT Bt.lo.1 ?hav (hfx _ (by first | with_reducible exact Ads.f1 _ | with_reducible exact Ads.f2 _ | with_reducible exact Ads.f3 _ | with_reducible exact Ads.f4 _ | with_reducible exact Ads.f5 _ | with_reducible exact Ads.f6 _ | with_reducible exact Ads.f7 _ | with_reducible exact Ads.f8 _ | simp [Ads.fix])) (hfx _ (by first | with_reducible exact Ads.f1 _ | with_reducible exact Ads.f2 _ | with_reducible exact Ads.f3 _ | with_reducible exact Ads.f4 _ | with_reducible exact Ads.f5 _ | with_reducible exact Ads.f6 _ | with_reducible exact Ads.f7 _ | with_reducible exact Ads.f8 _ | simp [Ads.fix])) (hfx _ (by first | with_reducible exact Ads.f1 _ | with_reducible exact Ads.f2 _ | with_reducible exact Ads.f3 _ | with_reducible exact Ads.f4 _ | with_reducible exact Ads.f5 _ | with_reducible exact Ads.f6 _ | with_reducible exact Ads.f7 _ | with_reducible exact Ads.f8 _ | simp [Ads.fix])) (List.mem_append_left _ (Ads.mem_foot (.head _) (by first | with_reducible exact NdA.f1 _ | with_reducible exact NdA.f2 _ | with_reducible exact NdA.f3 _ | simp [NdA.foot]))) f2 e2 (Ads.off Bt.nodup (.head _) (by first | with_reducible exact Ads.f1 _ | with_reducible exact Ads.f2 _ | with_reducible exact Ads.f3 _ | with_reducible exact Ads.f4 _ | with_reducible exact Ads.f5 _ | with_reducible exact Ads.f6 _ | with_reducible exact Ads.f7 _ | with_reducible exact Ads.f8 _ | simp [Ads.fix]) (by first | with_reducible exact NdA.f1 _ | with_reducible exact NdA.f2 _ | with_reducible exact NdA.f3 _ | simp [NdA.foot])) (by rw [hTq]; exact Grow.old p3) ?z1 ?z2 ?fin ?hE
          case hn => exact (Bt.nodes top (.head _)).mono fun p hp hz => stay p hp (hfo _ hz) (Ne.symm (Ads.apart Bt.nodup (.head _) hz (by first | with_reducible exact NdA.f1 _ | with_reducible exact NdA.f2 _ | with_reducible exact NdA.f3 _ | simp [NdA.foot])))
          case hd => exact Bt.dfa.mono (fun o ho => stay2 _ ho (by first | with_reducible exact Ads.f1 _ | with_reducible exact Ads.f2 _ | with_reducible exact Ads.f3 _ | with_reducible exact Ads.f4 _ | with_reducible exact Ads.f5 _ | with_reducible exact Ads.f6 _ | with_reducible exact Ads.f7 _ | with_reducible exact Ads.f8 _ | simp [Ads.fix]) f6) (fun o ho => stay2 _ ho (by first | with_reducible exact Ads.f1 _ | with_reducible exact Ads.f2 _ | with_reducible exact Ads.f3 _ | with_reducible exact Ads.f4 _ | with_reducible exact Ads.f5 _ | with_reducible exact Ads.f6 _ | with_reducible exact Ads.f7 _ | with_reducible exact Ads.f8 _ | simp [Ads.fix]) e6)
          case hT =>
            refine Bt.tr.mono (fun p hp hc hz => ?_)
            rcases hz with hz | hz
            · exact stay2 _ hp (by rw [hz]; simp [Ads.fix]) (by rw [hz]; exact d6)
            · exact stay p hp (fun e => hz (by rw [e]; exact hfx _ (by first | with_reducible exact Ads.f1 _ | with_reducible exact Ads.f2 _ | with_reducible exact Ads.f3 _ | with_reducible exact Ads.f4 _ | with_reducible exact Ads.f5 _ | with_reducible exact Ads.f6 _ | with_reducible exact Ads.f7 _ | with_reducible exact Ads.f8 _ | simp [Ads.fix]))) (fun e => hz (by rw [e]; exact hpa))
          case hav =>
            intro z hz
            by_cases h1 : z = G.nl
            · rw [h1]; exact y1_1 _ hmn
            · by_cases h2 : z = par.ar
              · rw [h2]; exact y1_1 _ hma
              · (refine feed (there z hz) ?_; refine x1_1 ?_; intro o ho)
                exact y1_1 o (stay _ ho h1 h2)
          case z1 =>
            have := Bt.cnt
            lia
          case z2 =>
            have := hsm1 top (.head _)
            lia
          case hE => passes_own
          case fin =>
            rintro g₂ h₂ tk₂ m₂ nw₂ k₂ ⟨sT, sB, sD⟩ F₂ N₂ hm₂ hk₂ hT₂ hka hkb
            dsimp only
            k_steps
            (refine feed (PInv.hit (show PInv b NN c (top.nd :: par.nd :: rest.map (·.nd)) (ci :: cs) Lang from P) hm) ?_; refine x0_3 ?_; intro P' hkeys hle)
            refine hKW _ _ _ ?_
            refine WPost.intro () (par :: rest).length ⟨tT.trans sT, sB, sD⟩ (by assumption) (by assumption) (fun _ hp => nomatch hp) (fun y hy _ => ?_) (by simp) ⟨.inl ⟨⟨par.x, par.dx, par.ar, ⟨par.nd.n, setArc par.nd.arcs ci q, par.nd.fin⟩⟩ :: rest, b, cs, rfl, ?_, BAt.hit (stop_of hN) Bt ?_ ?_ ?_ ?_, ?_, P', ?_, ?_, ?_, ?_, hsm2, ?_⟩, ?_⟩
            · simp only [List.mem_cons, List.not_mem_nil, or_false, not_or] at hy
              (revert hy; refine x0_7 ?_; intro y1 y2 y3 y4 y5 y6 y7)
              rw [hm₂ y y6 y7]
              refine Eq.trans ?_ (hmA y (by simp [y1, y2, y3, y4, y5, y6, y7]) (fun hm => nomatch hm)); simp only [if_neg y1, if_neg y2, if_neg y3, if_neg y4, if_neg y5, if_neg y6, if_neg y7, over]
            · simp only [List.length_append, List.length_map, List.length_reverse, List.length_cons, List.length_nil] at hgt ⊢
              lia
            · intro p hp hw hx
              simp only [List.mem_cons, List.not_mem_nil, or_false, not_or] at hw
              exact hk₂ p (stay p hp hw.1 hw.2.1) hw.2.2 (hx.imp (List.mem_append_left _) id)
            · exact y1_1 _ (by simpa using hk₂ _ hmn (Ne.symm d6) (.inl (hfx _ (by first | with_reducible exact Ads.f1 _ | with_reducible exact Ads.f2 _ | with_reducible exact Ads.f3 _ | with_reducible exact Ads.f4 _ | with_reducible exact Ads.f5 _ | with_reducible exact Ads.f6 _ | with_reducible exact Ads.f7 _ | with_reducible exact Ads.f8 _ | simp [Ads.fix]))))
            · exact y2_1 _ _ (ya3 (hk₂ _ hma (Ne.symm (hparf _ (by first | with_reducible exact Ads.f1 _ | with_reducible exact Ads.f2 _ | with_reducible exact Ads.f3 _ | with_reducible exact Ads.f4 _ | with_reducible exact Ads.f5 _ | with_reducible exact Ads.f6 _ | with_reducible exact Ads.f7 _ | with_reducible exact Ads.f8 _ | simp [Ads.fix]))) (.inl hpa)) hdp (hp3.stored ci q t2))
            · refine hT₂.sub (fun q' => ?_) (hkb hTq) (fun _ h => h)
              show b.T q' = if q' = q then top.nd.arcs else b.T q'
              split
              · rename_i e; rw [e, hTq]
              · rfl
            · intro z hz
              exact hal z (Ads.all_tail hz)
            · have := congrArg (List.take cs.length) hcs
              rw [List.take_take, List.length_cons, Nat.min_eq_left (Nat.le_succ _)] at this
              simpa using this
            · simp only [List.length_cons] at hcl; lia
            · simpa using hroot
            · intro d hd
              rcases List.mem_cons.mp hd with rfl | hd
              · have := congrArg List.length hkeys
                simp only [List.length_map] at this
                have := hsm1 par (.tail _ (.head _))
                show (setArc par.nd.arcs ci q).length ≤ kk
                lia
              · exact hsm1 d (.tail _ (.tail _ hd))
            · intro _ t r e a ha
              cases e
              have : a.1 ∈ (setArc par.nd.arcs ci q).map (·.1) := List.mem_map_of_mem ha
              rw [hkeys] at this
              (refine feed (List.mem_map.mp this) ?_; refine x1_1 ?_; intro a'; refine x0_2 ?_; intro ha' e')
              refine y1_1 ci (ya2 ?_ (e' ▸ hle a' ha'))
              rw [← hci]
              congr 1
              simp only [List.length_map, List.length_cons] at hlen ⊢
              lia
            · intro p hp hpa' hx
              have hz : ∀ z ∈ G.all (top :: par :: rest), p.1 ≠ z := fun z hz e => hpa' (e ▸ hal z hz)
              exact hk₂ p (stay p (hkeep p hp hpa' hx) (hz _ (Ads.mem_fix (by first | with_reducible exact Ads.f1 _ | with_reducible exact Ads.f2 _ | with_reducible exact Ads.f3 _ | with_reducible exact Ads.f4 _ | with_reducible exact Ads.f5 _ | with_reducible exact Ads.f6 _ | with_reducible exact Ads.f7 _ | with_reducible exact Ads.f8 _ | simp [Ads.fix]))) (hz _ (Ads.mem_foot (.tail _ (.head _)) (by first | with_reducible exact NdA.f1 _ | with_reducible exact NdA.f2 _ | with_reducible exact NdA.f3 _ | simp [NdA.foot])))) (hz _ (Ads.mem_fix (by first | with_reducible exact Ads.f1 _ | with_reducible exact Ads.f2 _ | with_reducible exact Ads.f3 _ | with_reducible exact Ads.f4 _ | with_reducible exact Ads.f5 _ | with_reducible exact Ads.f6 _ | with_reducible exact Ads.f7 _ | with_reducible exact Ads.f8 _ | simp [Ads.fix]))) (hx.imp (List.mem_append_right _) id)
        · have hq' : ∀ q, ((top.nd.arcs, top.nd.fin), q) ∉ b.seen := fun q hm => hq ⟨q, hm⟩
          refine seen_missing (A := A.deeper _) hu N2 (List.mem_append_right _ (mem_put_of hse1 hnese)) (hse2.mono fun a xs hm => List.mem_append_right _ (htup a xs hm)) Bt.lo.2.2.2 (hsk.mono fun a xs hm => List.mem_append_left _ hm) hh (hse3.at_none hq') ?_
          intro h₅ e₅ tk₅ hx₅
          dsimp only
          (refine feed (Bt.dfa) ?_; refine x0_2 ?_; intro dd1; refine x11_1 ?_; intro w1 w2 w3 w4 w5 r1 r2 r3 r4 r5 rn dd2)
          k_steps
          all_goals (first
            | (refine Stop.out ?_
               rename (top.nd.fin = true) => hfin
               rename (News _ _ _ (_ ++ put _ _ _)) => N3
               (refine feed (Bt.fs) ?_; refine x3_1 ?_; intro ofs S nS; refine x0_5 ?_; intro hs1 hs2 hs3 hs4 hs5)
               have hcn := Bt.cnt
               simp only [List.length_cons] at hcn
               have hsb : (scanBound : Nat) = 4096 := rfl
               refine wpAny_call ?_
               refine addF_spec (by (refine' Cx.of ?mcB ?mcX ?mcT ?mcA ?mcD ?mcU ?mcF ?mcK; (case mcB => k_asm); (case mcX => k_in); (case mcT => k_asm); (case mcA => walk_at "m_frames"); (case mcD => (show A.depth + 1 + 0 ≤ 360; lia)); (case mcU => (show A.units + 3 + 6 * 0 ≤ 400; lia)); (case mcF => exact rfl); (case mcK => exact rfl))) (by assumption) N3 (Bt.dfa.mono (fun o ho => List.mem_append_right _ (mem_put_of ho f6)) (fun o ho => List.mem_append_right _ (mem_put_of ho e6))) (List.mem_append_right _ (mem_put_of hs1 b6)) hs2 (by lia) (by lia) ?_
               intro h₆ tk₆ l₃ ofs' F₆ N₆ K₆ hs1' hs2'
               dsimp only
               k_steps
               refine Stop.out ?_
               have st3 : ∀ p ∈ nw₁, p.1 ≠ G.nl → p.1 ≠ G.fs → p ∈ l₃ := fun p hp h1 h2 => K₆ p (List.mem_append_right _ (mem_put_of hp h1)) (by simpa using h2)
               have hnl3 : (G.nl, listOf (rest.reverse.map fun d => Value.ref d.x).toArray (k + 1)) ∈ l₃ := K₆ _ (List.mem_append_right _ mem_put) (by simpa using Ne.symm b6)
               have htup3 := tup_keep N3 (List.mem_append_right _ (mem_put_of hs1 b6)) (by rw [hs2.1.1]; simp) K₆
               have hsk3 := (hsk.mono fun a xs hm => List.mem_append_left _ hm).mono htup3
               have hse3' := (hse2.mono fun a xs hm => List.mem_append_right _ (htup a xs hm)).mono htup3
               have hfs3 : FsIs w l₃ G.fs (fun q => if q = top.nd.n then top.nd.fin else b.F q) (b.seen.length + 1) := by
                 refine y3_1 ofs' _ _ (ya5 hs1' hs2' ?_ (fun q => ?_) (fun z hz => ?_))
                 · split <;> lia
                 · rw [hs4]
                   by_cases e : q = top.nd.n
                   · simp [e, hfin]
                   · have e' : ¬ ((q : Int) = (top.nd.n : Int)) := by lia
                     simp [e, e']
                 · simp only [Bool.or_eq_true, decide_eq_true_eq] at hz
                   rcases hz with hz | hz
                   · exact hs5 z hz
                   · have := Bt.lt top (.head _)
                     lia)
            | (refine Stop.out ?_
               rename (top.nd.fin = false) => hfin
               rename (News _ _ _ (_ ++ put _ _ _)) => N3
               (refine feed (led_miss N3) ?_; refine x1_1 ?_; intro l₃; refine x0_3 ?_; intro N₆ stp stT)
               have st3 : ∀ p ∈ nw₁, p.1 ≠ G.nl → p.1 ≠ G.fs → p ∈ l₃ := fun p hp h1 h2 => stp _ (mem_put_of hp h1)
               have hnl3 : (G.nl, listOf (rest.reverse.map fun d => Value.ref d.x).toArray (k + 1)) ∈ l₃ := stp _ mem_put
               (refine feed (Bt.fs) ?_; refine x3_1 ?_; intro ofs S nS; refine x0_5 ?_; intro hs1 hs2 hs3 hs4 hs5)
               have hfs3 : FsIs w l₃ G.fs (fun q => if q = top.nd.n then top.nd.fin else b.F q) (b.seen.length + 1) := by
                 refine y3_1 ofs S nS (ya5 (stp _ (mem_put_of hs1 b6)) hs2 (by lia) (fun q => ?_) hs5)
                 show S (q : Int) = if q = top.nd.n then top.nd.fin else b.F q
                 rw [hs4]
                 by_cases e : q = top.nd.n
                 · rw [if_pos e, hfin, e]; exact p6
                 · rw [if_neg e]
               have hsk3 := hsk.mono fun a xs hm => stT _ hm
               have hse3' := hse2.mono fun a xs hm => stp _ (htup a xs hm)
               skip))
          all_goals (
            have hse1' : (G.se, ose) ∈ l₃ := st3 _ hse1 (Ne.symm z7) (Ne.symm b7)
            have hcn := Bt.cnt
            simp only [List.length_cons] at hcn
            have hxl := hse3.length
            have hsl := sizeLine_eq
            refine seen_set (show A.units + 3 + 30 < cLine from hu) (by assumption) (by assumption) hse1' hse3' hsk3 (hse3.at_none hq') (by lia) ?_
            intro h₇ o₇ tk₇ F₇ N₇ hd₇
            dsimp only
            k_steps
            refine Stop.out ?_
            rename (News _ _ _ (put G.se _ l₃)) => N₈
            (refine feed (led_set4 N₈) ?_; refine x1_1 ?_; intro l₄; refine x0_4 ?_; intro N₉ st4 hse4 hl4)
            rw [← hl4] at hd₇
            have stay : ∀ p ∈ nw₁, p.1 ≠ G.nl → p.1 ≠ G.fs → p.1 ≠ G.se → p ∈ l₄ := fun p hp h1 h2 h3 => st4 p (st3 p hp h1 h2) h3
            have hfx : ∀ z ∈ G.fix, z ∈ G.all (top :: rest) ++ ex := fun z hz => List.mem_append_left _ (Ads.mem_fix hz)
            have hnl4 := st4 _ hnl3 z7
            have hfs4 := hfs3.mono fun o ho => st4 _ ho b7
            refine (show wpAny _ _ (exec sufFor _) _ _ _ from ?_)
            refine arcs_loop (T := b.T) (k := b.seen.length) (av := G.all (top :: rest) ++ ex) (q := top.nd.n) (G := G) (top := top) (by assumption) XB TB (by assumption) hdep hun hh (by assumption) N₉ rfl rfl rfl ?_ ?_ ?_ Bt.lo.1 ?_ (hfx _ (by first | with_reducible exact Ads.f1 _ | with_reducible exact Ads.f2 _ | with_reducible exact Ads.f3 _ | with_reducible exact Ads.f4 _ | with_reducible exact Ads.f5 _ | with_reducible exact Ads.f6 _ | with_reducible exact Ads.f7 _ | with_reducible exact Ads.f8 _ | simp [Ads.fix])) (hfx _ (by first | with_reducible exact Ads.f1 _ | with_reducible exact Ads.f2 _ | with_reducible exact Ads.f3 _ | with_reducible exact Ads.f4 _ | with_reducible exact Ads.f5 _ | with_reducible exact Ads.f6 _ | with_reducible exact Ads.f7 _ | with_reducible exact Ads.f8 _ | simp [Ads.fix])) (hfx _ (by first | with_reducible exact Ads.f1 _ | with_reducible exact Ads.f2 _ | with_reducible exact Ads.f3 _ | with_reducible exact Ads.f4 _ | with_reducible exact Ads.f5 _ | with_reducible exact Ads.f6 _ | with_reducible exact Ads.f7 _ | with_reducible exact Ads.f8 _ | simp [Ads.fix])) (List.mem_append_left _ (Ads.mem_foot (.head _) (by first | with_reducible exact NdA.f1 _ | with_reducible exact NdA.f2 _ | with_reducible exact NdA.f3 _ | simp [NdA.foot]))) f2 e2 (Ads.off Bt.nodup (.head _) (by first | with_reducible exact Ads.f1 _ | with_reducible exact Ads.f2 _ | with_reducible exact Ads.f3 _ | with_reducible exact Ads.f4 _ | with_reducible exact Ads.f5 _ | with_reducible exact Ads.f6 _ | with_reducible exact Ads.f7 _ | with_reducible exact Ads.f8 _ | simp [Ads.fix]) (by first | with_reducible exact NdA.f1 _ | with_reducible exact NdA.f2 _ | with_reducible exact NdA.f3 _ | simp [NdA.foot])) (by rw [show b.T top.nd.n = [] from p5]; exact Grow.new p3) (by lia) ?_ ?_ (by passes_own)
            · exact (Bt.nodes top (.head _)).mono fun p hp hz => stay p hp (Ads.off Bt.nodup (.head _) (by first | with_reducible exact Ads.f1 _ | with_reducible exact Ads.f2 _ | with_reducible exact Ads.f3 _ | with_reducible exact Ads.f4 _ | with_reducible exact Ads.f5 _ | with_reducible exact Ads.f6 _ | with_reducible exact Ads.f7 _ | with_reducible exact Ads.f8 _ | simp [Ads.fix]) hz) (Ads.off Bt.nodup (.head _) (by first | with_reducible exact Ads.f1 _ | with_reducible exact Ads.f2 _ | with_reducible exact Ads.f3 _ | with_reducible exact Ads.f4 _ | with_reducible exact Ads.f5 _ | with_reducible exact Ads.f6 _ | with_reducible exact Ads.f7 _ | with_reducible exact Ads.f8 _ | simp [Ads.fix]) hz) (Ads.off Bt.nodup (.head _) (by first | with_reducible exact Ads.f1 _ | with_reducible exact Ads.f2 _ | with_reducible exact Ads.f3 _ | with_reducible exact Ads.f4 _ | with_reducible exact Ads.f5 _ | with_reducible exact Ads.f6 _ | with_reducible exact Ads.f7 _ | with_reducible exact Ads.f8 _ | simp [Ads.fix]) hz)
            · exact Bt.dfa.mono (fun o ho => stay _ ho f6 f4 f7) (fun o ho => stay _ ho e6 e4 e7)
            · refine Bt.tr.mono (fun p hp hc hz => ?_)
              rcases hz with hz | hz
              · exact stay p hp (by rw [hz]; exact d6) (by rw [hz]; exact d4) (by rw [hz]; exact d7)
              · exact stay p hp (fun e => hz (by rw [e]; exact hfx _ (by first | with_reducible exact Ads.f1 _ | with_reducible exact Ads.f2 _ | with_reducible exact Ads.f3 _ | with_reducible exact Ads.f4 _ | with_reducible exact Ads.f5 _ | with_reducible exact Ads.f6 _ | with_reducible exact Ads.f7 _ | with_reducible exact Ads.f8 _ | simp [Ads.fix]))) (fun e => hz (by rw [e]; exact hfx _ (by first | with_reducible exact Ads.f1 _ | with_reducible exact Ads.f2 _ | with_reducible exact Ads.f3 _ | with_reducible exact Ads.f4 _ | with_reducible exact Ads.f5 _ | with_reducible exact Ads.f6 _ | with_reducible exact Ads.f7 _ | with_reducible exact Ads.f8 _ | simp [Ads.fix]))) (fun e => hz (by rw [e]; exact hfx _ (by first | with_reducible exact Ads.f1 _ | with_reducible exact Ads.f2 _ | with_reducible exact Ads.f3 _ | with_reducible exact Ads.f4 _ | with_reducible exact Ads.f5 _ | with_reducible exact Ads.f6 _ | with_reducible exact Ads.f7 _ | with_reducible exact Ads.f8 _ | simp [Ads.fix])))
            · intro z hz
              by_cases h1 : z = G.nl
              · rw [h1]; exact y1_1 _ hnl4
              · by_cases h2 : z = G.fs
                · (revert hfs4; refine x3_1 ?_; intro o _ _; refine x0_2 ?_; intro ho _)
                  rw [h2]; exact y1_1 o ho
                · by_cases h3 : z = G.se
                  · rw [h3]; exact y1_1 _ hse4
                  · (refine feed (there z hz) ?_; refine x1_1 ?_; intro o ho)
                    exact y1_1 o (stay _ ho h1 h2 h3)
            · have := hsm1 top (.head _)
              lia
            · rintro g₂ h₂ tk₂ m₂ nw₂ k₂ ⟨sT, sB, sD⟩ F₂ N₂ hm₂ hk₂ hT₂ hka hkb
              dsimp only
              k_steps
              have hBt : BAt w nw₂ G rest (b.add top.nd.n top.nd.arcs top.nd.fin) c ex := by
                refine BAt.miss (stop_of hN) Bt ?_ ?_ ?_ ?_ ?_
                · intro p hp hw hx
                  simp only [List.mem_cons, List.not_mem_nil, or_false, not_or] at hw
                  exact hk₂ p (stay p hp hw.1 hw.2.1 hw.2.2.1) hw.2.2.2 (hx.imp (List.mem_append_left _) id)
                · exact y1_1 _ (hk₂ _ hnl4 (Ne.symm d6) (.inl (hfx _ (by first | with_reducible exact Ads.f1 _ | with_reducible exact Ads.f2 _ | with_reducible exact Ads.f3 _ | with_reducible exact Ads.f4 _ | with_reducible exact Ads.f5 _ | with_reducible exact Ads.f6 _ | with_reducible exact Ads.f7 _ | with_reducible exact Ads.f8 _ | simp [Ads.fix]))))
                · exact hfs4.mono fun o ho => hk₂ _ ho (Ne.symm d4) (.inl (hfx _ (by first | with_reducible exact Ads.f1 _ | with_reducible exact Ads.f2 _ | with_reducible exact Ads.f3 _ | with_reducible exact Ads.f4 _ | with_reducible exact Ads.f5 _ | with_reducible exact Ads.f6 _ | with_reducible exact Ads.f7 _ | with_reducible exact Ads.f8 _ | simp [Ads.fix])))
                · refine y2_1 _ _ (ya3 (hk₂ _ hse4 (Ne.symm d7) (.inl (hfx _ (by first | with_reducible exact Ads.f1 _ | with_reducible exact Ads.f2 _ | with_reducible exact Ads.f3 _ | with_reducible exact Ads.f4 _ | with_reducible exact Ads.f5 _ | with_reducible exact Ads.f6 _ | with_reducible exact Ads.f7 _ | with_reducible exact Ads.f8 _ | simp [Ads.fix])))) (hd₇.mono (fun a xs hm => hk₂ _ hm (fun e => ?_) (.inr (by show Value.type "tuple" ≠ _; simp)))) hse3.append)
                  (refine feed (Bt.tr) ?_; refine x2_1 ?_; intro ot kk'; refine x0_3 ?_; intro ho1 ho2 _)
                  have ho4 := stay _ ho1 d6 d4 d7
                  simp only at e
                  subst e
                  have := same_at N₉ hm ho4
                  (revert ho2; refine x2_1 ?_; intro _ _; refine x0_2 ?_; intro hex _)
                  rw [← this] at hex
                  exact absurd hex.1 (by simp)
                · exact hT₂.sub (fun q' => rfl) hka (fun _ h => h)
              rename (((dn : Nat) : Int) < _) => hgt
              have hsmq : ∀ q, ((b.add top.nd.n top.nd.arcs top.nd.fin).T q).length ≤ kk := fun q => by
                show (if q = top.nd.n then top.nd.arcs else b.T q).length ≤ kk
                split
                · exact hsm1 top (.head _)
                · exact hsm2 q
              refine hKW _ _ _ ?_
              refine WPost.intro () rest.length ⟨by refine KtsTurn.trans ?_ sT; assumption, sB, sD⟩ (by assumption) (by assumption) (fun _ hp => nomatch hp) (fun y hy _ => ?_) (by simp) ?_
              · simp only [List.mem_cons, List.not_mem_nil, or_false, not_or] at hy
                (revert hy; refine x0_7 ?_; intro y1 y2 y3 y4 y5 y6 y7)
                rw [hm₂ y y6 y7]
                refine Eq.trans ?_ (hmA y (by simp [y1, y2, y3, y4, y5, y6, y7]) (fun hm => nomatch hm)); simp only [if_neg y1, if_neg y2, if_neg y3, if_neg y4, if_neg y5, if_neg y6, if_neg y7, over]
              refine ⟨?_, fun p hp hpa' hx => ?_⟩
              rotate_left
              · have hz : ∀ z ∈ G.all (top :: rest), p.1 ≠ z := fun z hz e => hpa' (e ▸ hal z hz)
                exact hk₂ p (stay p (hkeep p hp hpa' hx) (hz _ (Ads.mem_fix (by first | with_reducible exact Ads.f1 _ | with_reducible exact Ads.f2 _ | with_reducible exact Ads.f3 _ | with_reducible exact Ads.f4 _ | with_reducible exact Ads.f5 _ | with_reducible exact Ads.f6 _ | with_reducible exact Ads.f7 _ | with_reducible exact Ads.f8 _ | simp [Ads.fix]))) (hz _ (Ads.mem_fix (by first | with_reducible exact Ads.f1 _ | with_reducible exact Ads.f2 _ | with_reducible exact Ads.f3 _ | with_reducible exact Ads.f4 _ | with_reducible exact Ads.f5 _ | with_reducible exact Ads.f6 _ | with_reducible exact Ads.f7 _ | with_reducible exact Ads.f8 _ | simp [Ads.fix]))) (hz _ (Ads.mem_fix (by first | with_reducible exact Ads.f1 _ | with_reducible exact Ads.f2 _ | with_reducible exact Ads.f3 _ | with_reducible exact Ads.f4 _ | with_reducible exact Ads.f5 _ | with_reducible exact Ads.f6 _ | with_reducible exact Ads.f7 _ | with_reducible exact Ads.f8 _ | simp [Ads.fix])))) (hz _ (Ads.mem_fix (by first | with_reducible exact Ads.f1 _ | with_reducible exact Ads.f2 _ | with_reducible exact Ads.f3 _ | with_reducible exact Ads.f4 _ | with_reducible exact Ads.f5 _ | with_reducible exact Ads.f6 _ | with_reducible exact Ads.f7 _ | with_reducible exact Ads.f8 _ | simp [Ads.fix]))) (hx.imp (List.mem_append_right _) id)
              cases rest with
              | nil =>
                simp only [List.length_append, List.length_map, List.length_reverse, List.length_cons, List.length_nil] at hgt
                have hdn0 : dn = 0 := by lia
                refine .inr ⟨rfl, hdn0, _, hBt, ?_⟩
                have e : cs = [] := by simpa using hlen
                subst e
                have h0 : top.nd.n = 0 := by simpa using hroot
                (refine feed (PInv.root (show PInv b NN c [top.nd] [] Lang from P) (hL hdn0)) ?_; refine x0_2 ?_; intro r1 r2)
                have htg := PInv.root_tg (show PInv b NN c [top.nd] [] Lang from P) (by rw [← h0]; exact p1)
                rw [h0] at r1 r2 hsmq htg ⊢
                exact ⟨r1, hsmq, htg, r2⟩
              | cons par rest =>
                cases cs with
                | nil => simp at hlen
                | cons ci cs =>
                have hci : last.cps.toList[cs.length]? = some ci := by
                  have : (last.cps.toList.take (cs.length + 1))[cs.length]? = some ci := by
                    rw [← List.length_cons (a := ci), ← hcs]; simp
                  rw [List.getElem?_take] at this
                  simpa using this
                (refine feed (PInv.miss (show PInv b NN c (top.nd :: par.nd :: rest.map (·.nd)) (ci :: cs) Lang from P)) ?_; refine x0_2 ?_; intro P' hle)
                refine .inl ⟨par :: rest, _, cs, rfl, ?_, hBt, fun z hz => hal z (Ads.all_tail hz), P', ?_, ?_, ?_, fun d hd => hsm1 d (.tail _ hd), hsmq, ?_⟩
                · simp only [List.length_append, List.length_map, List.length_reverse, List.length_cons, List.length_nil] at hgt ⊢
                  lia
                · have := congrArg (List.take cs.length) hcs
                  rw [List.take_take, List.length_cons, Nat.min_eq_left (Nat.le_succ _)] at this
                  simpa using this
                · simp only [List.length_cons] at hcl; lia
                · simpa using hroot
                · intro _ t r e a ha
                  cases e
                  refine y1_1 ci (ya2 ?_ (hle a ha))
                  rw [← hci]
                  congr 1
                  simp only [List.length_map, List.length_cons] at hlen ⊢
                  lia)
      · rename (¬ ((dn : Nat) : Int) < _) => hge
        simp only [List.length_append, List.length_map, List.length_reverse, List.length_cons, List.length_nil] at hge
        exact h _ _ _ _ (rest.length + 1) ⟨by assumption, by assumption, by assumption⟩ (by assumption) (by assumption) (by lia) (.inl ⟨top :: rest, b, cs, rfl, hdn, Bt, hal, P, hcs, hcl, hroot, hsm1, hsm2, hlow⟩) hkeep
    · obtain ⟨rfl, rfl, b, Bt, hok, hsm2, htg, hacc⟩ := J₁
      (refine feed (Bt.nl) ?_; refine x1_1 ?_; intro k hnl)
      simp only [List.reverse_nil, List.map_nil] at hnl
      have hlt : ([] : List Value).length < 1000 := by decide
      k_steps
      exact h _ _ _ _ 0 ⟨by assumption, by assumption, by assumption⟩ (by assumption) (by assumption) (Nat.le_refl _) (.inr ⟨rfl, rfl, b, Bt, hok, hsm2, htg, hacc⟩) hkeep)
end Suf1
section Pure10
structure PPre (b : Bld) (N c : Nat) (nds : List Nd) (cs : List Nat) (Lang : List Nat → Prop) : Prop where
  ok : b.Ok N
  pok : b.POk nds cs []
  words : ∀ x, b.Words nds cs x ↔ Lang x
  len : ∀ x, Lang x → x.length = N
  nodup : (nds.map (·.n)).Nodup
  lt : ∀ nd ∈ nds, nd.n < c
  reg : ∀ q, b.Reg q → q < c
theorem PInv.pre {b : Bld} {N c : Nat} {nds : List Nd} {cs : List Nat} {Lang} (h : PInv b N c nds cs Lang) : PPre b N c nds cs Lang := ⟨h.ok, h.pok, h.words, h.len, h.nodup, h.lt, h.reg⟩
theorem PPre.push {b : Bld} {N c d : Nat} {top : Nd} {rest : List Nd} {cs : List Nat} {Lang} (h : PPre b N c (top :: rest) cs Lang) (hd : ∀ a ∈ top.arcs, a.1 < d) (hl : cs.length < N) :
    PPre b N (c + 1) (⟨c, [], false⟩ :: ⟨top.n, setArc top.arcs d c, top.fin⟩ :: rest) (d :: cs) Lang ∧ setArc top.arcs d c = top.arcs ++ [(d, c)] := by
  have es : setArc top.arcs d c = top.arcs ++ [(d, c)] := setArc_new hd
  have hrc : ¬ b.Reg c := fun x => Nat.lt_irrefl _ (h.reg c x)
  have ht := h.pok.last
  (refine feed (ht.cl) ?_; refine x1_1 ?_; intro cl; refine x0_2 ?_; intro e hr)
  rw [List.append_nil] at e
  have hfin : top.fin = false := by
    cases hf : top.fin with
    | false => rfl
    | true =>
      have := h.len _ ((h.words (cs.reverse ++ [])).1 (Bld.words_top (.inl ⟨rfl, hf⟩)))
      simp at this
      lia
  refine ⟨?_, es⟩
  rw [es]
  have hpw : (top.arcs ++ [(d, c)]).Pairwise fun a b => a.1 < b.1 := List.pairwise_append.mpr ⟨ht.2.2.1, by simp, fun a ha x hx => by
    have : x = (d, c) := by simpa using hx
    subst this
    exact hd a ha⟩
  have hR : ∀ u, b.LangR ⟨top.n, top.arcs ++ [(d, c)], top.fin⟩ u ↔ b.LangR top u := fun u => by
    constructor
    · rintro (h1 | ⟨x, q, u', rfl, h1, h2, h3⟩)
      · exact .inl h1
      · rcases List.mem_append.mp h1 with h1 | h1
        · exact .inr ⟨x, q, u', rfl, h1, h2, h3⟩
        · have : (x, q) = (d, c) := by simpa using h1
          have : q = c := (Prod.mk.inj this).2
          subst this
          exact absurd h2 hrc
    · rintro (h1 | ⟨x, q, u', rfl, h1, h2, h3⟩)
      · exact .inl h1
      · exact .inr ⟨x, q, u', rfl, List.mem_append_left _ h1, h2, h3⟩
  refine ⟨h.ok, ⟨⟨hrc, ⟨[], rfl, fun a ha => nomatch ha⟩, .nil, fun x => by cases x⟩, h.pok.relast rfl ⟨ht.1, ⟨top.arcs, rfl, by rw [e]; exact hr⟩, hpw, fun x => by rw [hfin] at x; cases x⟩⟩, fun x => ?_, h.len, ?_, ?_, fun q hq => Nat.lt_succ_of_lt (h.reg q hq)⟩
  · rw [← h.words x]
    have h1 : b.Words (⟨top.n, top.arcs ++ [(d, c)], top.fin⟩ :: rest) cs x ↔ b.Words (top :: rest) cs x := by
      cases cs with
      | nil => exact hR x
      | cons c' cs' =>
        show (∃ u, x = (c' :: cs').reverse ++ u ∧ _) ∨ _ ↔ (∃ u, x = (c' :: cs').reverse ++ u ∧ _) ∨ _
        simp only [hR]
    rw [← h1]
    constructor
    · rintro (⟨u, _, (⟨_, h2⟩ | ⟨_, _, _, _, h2, _⟩)⟩ | h2)
      · cases h2
      · cases h2
      · exact h2
    · exact .inr
  · rw [List.map_cons, List.map_cons]
    have := h.nodup
    rw [List.map_cons] at this
    refine List.nodup_cons.mpr ⟨fun hm => ?_, this⟩
    have : c ∈ (top :: rest).map (·.n) := by simpa using hm
    (refine feed (List.mem_map.mp this) ?_; refine x1_1 ?_; intro nd; refine x0_2 ?_; intro hnd e)
    have := h.lt nd hnd
    lia
  · intro nd hnd
    rcases List.mem_cons.mp hnd with rfl | hnd
    · exact Nat.lt_succ_self _
    · rcases List.mem_cons.mp hnd with rfl | hnd
      · exact Nat.lt_succ_of_lt (h.lt top (by simp))
      · exact Nat.lt_succ_of_lt (h.lt nd (.tail _ hnd))
theorem PPre.final {b : Bld} {N c n : Nat} {rest : List Nd} {cs : List Nat} {Lang} (h : PPre b N c (⟨n, [], false⟩ :: rest) cs Lang) (hl : cs.length = N) :
    PInv b N c (⟨n, [], true⟩ :: rest) cs (fun x => Lang x ∨ x = cs.reverse) := by
  have ht := h.pok.last
  refine ⟨h.ok, h.pok.relast rfl ⟨ht.1, ⟨[], rfl, fun a ha => nomatch ha⟩, .nil, fun _ => rfl⟩, fun x => ?_, fun x hx => ?_, by simpa using h.nodup, fun nd hnd => ?_, h.reg, fun _ t r e => ?_⟩
  · rw [← h.words x]
    have h1 : ∀ u, b.LangR ⟨n, [], true⟩ u ↔ u = [] := fun u => by
      constructor
      · rintro (⟨h, _⟩ | ⟨_, _, _, _, h, _⟩)
        · exact h
        · cases h
      · rintro rfl; exact .inl ⟨rfl, rfl⟩
    have h2 : ∀ u, ¬ b.LangR ⟨n, [], false⟩ u := fun u => by
      rintro (⟨_, h⟩ | ⟨_, _, _, _, h, _⟩) <;> cases h
    cases cs with
    | nil =>
      show b.LangR ⟨n, [], true⟩ x ↔ b.LangR ⟨n, [], false⟩ x ∨ x = _
      rw [h1]
      constructor
      · exact fun h => .inr h
      · rintro (h | h)
        · exact absurd h (h2 _)
        · exact h
    | cons c' cs' =>
      show (∃ u, x = (c' :: cs').reverse ++ u ∧ b.LangR ⟨n, [], true⟩ u) ∨ _ ↔ ((∃ u, x = (c' :: cs').reverse ++ u ∧ b.LangR ⟨n, [], false⟩ u) ∨ _) ∨ x = _
      constructor
      · rintro (⟨u, e, hu⟩ | h)
        · rw [h1] at hu; subst hu
          exact .inr (by rw [e, List.append_nil])
        · exact .inl (.inr h)
      · rintro ((⟨u, _, hu⟩ | h) | h)
        · exact absurd hu (h2 u)
        · exact .inr h
        · exact .inl ⟨[], by rw [h, List.append_nil], (h1 _).2 rfl⟩
  · rcases hx with hx | hx
    · exact h.len x hx
    · rw [hx, List.length_reverse, hl]
  · rcases List.mem_cons.mp hnd with rfl | hnd
    · exact h.lt ⟨n, [], false⟩ (by simp)
    · exact h.lt nd (.tail _ hnd)
  · cases e; exact .inl rfl
noncomputable def Bld.empty : Bld := ⟨fun _ => [], fun _ => false, []⟩
theorem Bld.empty_reg {q : Nat} : ¬ Bld.empty.Reg q := fun ⟨k, h⟩ => nomatch h
theorem PInv.start (N : Nat) : PInv Bld.empty N 1 [⟨0, [], false⟩] [] (fun _ => False) := by
  refine ⟨⟨(fun k q h => nomatch h), (fun k q h => nomatch h), (fun k q h => nomatch h), (fun k q h => nomatch h), fun q h => absurd h Bld.empty_reg, fun q h => absurd h Bld.empty_reg, fun q _ => ⟨rfl, rfl⟩⟩,
    ⟨Bld.empty_reg, ⟨[], rfl, (fun a ha => nomatch ha)⟩, .nil, fun x => by cases x⟩, fun x => ?_, fun x h => h.elim, by simp, fun nd hnd => ?_, fun q h => absurd h Bld.empty_reg, fun h => absurd rfl h⟩
  · constructor
    · rintro (⟨_, h⟩ | ⟨_, _, _, _, h, _⟩) <;> cases h
    · exact False.elim
  · have : nd = ⟨0, [], false⟩ := by simpa using hnd
    subst this; decide
theorem PInv.none_arcs {b : Bld} {N c : Nat} {top : Nd} {rest : List Nd} {cs : List Nat} {Lang} (h : PInv b N c (top :: rest) cs Lang) (hn : ∀ x, ¬ Lang x) : top.arcs = [] := by
  cases ha : top.arcs with
  | nil => rfl
  | cons a as =>
    have hm : a ∈ top.arcs := by rw [ha]; simp
    (refine feed (h.ok.live _ (h.top.2.1 a hm)) ?_; refine x1_1 ?_; intro u hu)
    exact absurd ((h.words _).1 (Bld.words_top (u := a.1 :: u) (.inr ⟨a.1, a.2, u, rfl, hm, h.top.2.1 a hm, hu⟩))) (hn _)
theorem lt_at : ∀ {a b : List Nat} {p x y : Nat}, a < b → a.take p = b.take p → a[p]? = some x → b[p]? = some y → x ≠ y → x < y
  | [], _, p, x, y, _, _, h, _, _ => by simp at h
  | _ :: _, [], p, x, y, h, _, _, _, _ => by simp at h
  | u :: a, v :: b, 0, x, y, h, _, h1, h2, hne => by
    simp at h1 h2
    subst h1; subst h2
    rw [List.cons_lt_cons_iff] at h
    rcases h with h | h
    · exact h
    · exact absurd h.1 hne
  | u :: a, v :: b, p + 1, x, y, h, ht, h1, h2, hne => by
    simp only [List.take_succ_cons, List.cons.injEq] at ht
    rw [List.cons_lt_cons_iff] at h
    rcases h with h | h
    · lia
    · exact lt_at h.2 ht.2 (by simpa using h1) (by simpa using h2) hne
theorem PInv.congr {b : Bld} {N c : Nat} {nds : List Nd} {cs : List Nat} {L L' : List Nat → Prop} (h : PInv b N c nds cs L) (e : ∀ x, L x ↔ L' x) : PInv b N c nds cs L' :=
  ⟨h.ok, h.pok, fun x => (h.words x).trans (e x), fun x hx => h.len x ((e x).2 hx), h.nodup, h.lt, h.reg, h.live⟩
end Pure10
section Sdf0
theorem keep0 {a b : Led} (k : Keep [] a b) {p : Addr × Obj} (h : p ∈ a) : p ∈ b := k p h (fun h => nomatch h)
theorem sdfa_init {w : World} {nw n1 n2 n3 : Led} {x dx tr de fs ol cx cdx d l x' dx' ar' : Addr} {o : Obj} (H1 : NewDfa w nw n1 x dx tr de fs ol) (H2 : NewCount n1 n2 cx cdx) (i4 : o.IsDictOf (PySem.strKind prog w) []) (lo4 : (d == sysModules) = false) (hd : ∀ p ∈ n2, p.1 < d)
    (H3 : NewNode w ((d, o) :: n2) n3 x' dx' ar' 0) (hl : ∀ p ∈ n3, p.1 < l) :
    BAt w ((l, listOf #[.ref x'] 0) :: n3) ⟨x, dx, tr, de, fs, ol, l, d⟩ [⟨x', dx', ar', ⟨0, [], false⟩⟩] Bld.empty 1 (cdx :: cx :: nw.map (·.1)) ∧
    CountAt ((l, listOf #[.ref x'] 0) :: n3) cx cdx 1 ∧ (∀ p ∈ nw, p ∈ (l, listOf #[.ref x'] 0) :: n3) ∧
    (∀ z ∈ cdx :: cx :: nw.map (·.1), (∃ oz, (z, oz) ∈ (l, listOf #[.ref x'] 0) :: n3) ∧ z ∉ (⟨x, dx, tr, de, fs, ol, l, d⟩ : Ads).all [⟨x', dx', ar', ⟨0, [], false⟩⟩]) := by
  (revert H1; rintro ⟨K1, D1, zq2, zq3, zq4, zq5, fr1, nd1, lo1, lo2, lo3⟩; revert zq2; refine x1_1 ?_; intro o1; refine x0_2 ?_; intro t1 t2; revert zq3; refine x1_1 ?_; intro o2; refine x0_2 ?_; intro e1 e2; revert zq4; refine x1_1 ?_; intro o3; refine x0_2 ?_; intro l1 l2; revert zq5; refine x1_1 ?_; intro led f1)
  (revert H2; rintro ⟨K2, zq1, fr2⟩; revert zq1; refine x3_1 ?_; intro bc c1 c2; refine x0_2 ?_; intro hc1 hc2)
  (revert H3; rintro ⟨K3, A3, zq2, fr3, nd3, lo5⟩; revert zq2; refine x1_1 ?_; intro oa; refine x0_2 ?_; intro a1 a2)
  have D1' := D1
  (revert D1; refine x0_2 ?_; intro q1; refine x11_1 ?_; intro g1 g2 g3 g4 g5 u1 u2 u3 u4 u5 un q2)
  have up2 : ∀ {p}, p ∈ n1 → p ∈ n2 := fun h => keep0 K2 h
  have up3 : ∀ {p}, p ∈ n2 → p ∈ n3 := fun h => keep0 K3 (.tail _ h)
  have up : ∀ {p}, p ∈ n1 → p ∈ (l, listOf #[Value.ref x'] 0) :: n3 := fun h => .tail _ (up3 (up2 h))
  have six : ∀ z ∈ [x, dx, tr, de, fs, ol], ∃ oz, (z, oz) ∈ n1 := fun z hz => by
    simp only [List.mem_cons, List.not_mem_nil, or_false] at hz
    rcases hz with rfl | rfl | rfl | rfl | rfl | rfl
    · exact y1_1 _ q1
    · exact y1_1 _ q2
    · exact y1_1 _ t1
    · exact y1_1 _ e1
    · exact y1_1 _ f1
    · exact y1_1 _ l1
  have sixd : ∀ z ∈ [x, dx, tr, de, fs, ol], z ≠ d := fun z hz => by
    (refine feed (six z hz) ?_; refine x1_1 ?_; intro oz h)
    exact Nat.ne_of_lt (hd _ (up2 h))
  have inl : ∀ {z oz}, (z, oz) ∈ n3 → z ≠ l := fun h => Nat.ne_of_lt (hl _ h)
  have sixl : ∀ z ∈ [x, dx, tr, de, fs, ol], z ≠ l := fun z hz => by
    (refine feed (six z hz) ?_; refine x1_1 ?_; intro oz h)
    exact inl (up3 (up2 h))
  have hdl : d ≠ l := inl (keep0 K3 (.head _))
  (revert A3; refine x0_2 ?_; intro b1; refine x7_1 ?_; intro h1 h2 h3 s1 s2 s3 sn b2)
  have three : ∀ z ∈ [x', dx', ar'], z ≠ l := fun z hz => by
    simp only [List.mem_cons, List.not_mem_nil, or_false] at hz
    rcases hz with rfl | rfl | rfl
    · exact inl b1
    · exact inl b2
    · exact inl a1
  have frd : ∀ z ∈ [x', dx', ar'], d ≠ z := fun z hz => fr3 z hz _ (.head _)
  have frn : ∀ z ∈ [x', dx', ar'], ∀ {y oy}, (y, oy) ∈ n2 → y ≠ z := fun z hz y oy h => fr3 z hz _ (.tail _ h)
  have fr6 : ∀ z ∈ [x', dx', ar'], ∀ y ∈ [x, dx, tr, de, fs, ol], y ≠ z := fun z hz y hy => by
    (refine feed (six y hy) ?_; refine x1_1 ?_; intro oz h)
    exact frn z hz (up2 h)
  have hall : (⟨x, dx, tr, de, fs, ol, l, d⟩ : Ads).all [⟨x', dx', ar', ⟨0, [], false⟩⟩] = [x, dx, tr, de, fs, ol] ++ ([l, d] ++ [x', dx', ar']) := rfl
  have hnotin : ∀ z, (∀ y ∈ [x, dx, tr, de, fs, ol], z ≠ y) → z ≠ l → z ≠ d → (∀ y ∈ [x', dx', ar'], z ≠ y) → z ∉ (⟨x, dx, tr, de, fs, ol, l, d⟩ : Ads).all [⟨x', dx', ar', ⟨0, [], false⟩⟩] := fun z h1 h2 h3 h4 hm => by
    rw [hall] at hm
    rcases List.mem_append.mp hm with hm | hm
    · exact h1 z hm rfl
    · rcases List.mem_append.mp hm with hm | hm
      · simp only [List.mem_cons, List.not_mem_nil, or_false] at hm
        rcases hm with hm | hm
        · exact h2 hm
        · exact h3 hm
      · exact h4 z hm rfl
  refine ⟨⟨D1'.mono (fun o h => up h) (fun o h => up h), ⟨o2, up e1, e2⟩, ⟨o3, up l1, l2⟩, ⟨_, _, 0, up f1, setObjOf_fresh led, Nat.zero_le _, fun q => rfl, fun z (hz : false = true) => (nomatch hz)⟩,
    ⟨o1, [], up t1, t2, Nat.zero_le _, fun q => .inl ⟨rfl, rfl⟩, fun q q' a (h : none = some _) => (nomatch h), fun q a (h : none = some _) => (nomatch h)⟩, ⟨0, .head _⟩, fun dd hdd => ?_, ⟨o, [], .tail _ (keep0 K3 (.head _)), SeenD.nil i4, trivial⟩, ?_, Nat.le_refl 1, fun dd hdd => ?_, ⟨lo1, lo2, lo3, lo4⟩⟩,
    ⟨_, _, _, .tail _ (up3 hc1), .tail _ (up3 hc2)⟩, fun p hp => up (keep0 K1 hp), fun z hz => ?_⟩
  · have : dd = ⟨x', dx', ar', ⟨0, [], false⟩⟩ := by simpa using hdd
    subst this
    exact ⟨⟨.tail _ b1, h1, h2, h3, s1, s2, s3, sn, .tail _ b2⟩, ⟨oa, [], .tail _ a1, a2, trivial⟩, lo5⟩
  · rw [hall]
    refine List.nodup_append.mpr ⟨nd1, List.nodup_append.mpr ⟨?_, nd3, ?_⟩, ?_⟩
    · simp [Ne.symm hdl]
    · intro y hy z hz
      simp only [List.mem_cons, List.not_mem_nil, or_false] at hy
      rcases hy with rfl | rfl
      · exact Ne.symm (three z hz)
      · exact frd z hz
    · intro y hy z hz
      rcases List.mem_append.mp hz with hz | hz
      · simp only [List.mem_cons, List.not_mem_nil, or_false] at hz
        rcases hz with rfl | rfl
        · exact sixl y hy
        · exact sixd y hy
      · exact fr6 z hz y hy
  · have : dd = ⟨x', dx', ar', ⟨0, [], false⟩⟩ := by simpa using hdd
    subst this
    exact Nat.zero_lt_one
  · have hn2 : ∃ oz, (z, oz) ∈ n2 := by
      rcases List.mem_cons.mp hz with rfl | hz
      · exact y1_1 _ hc2
      · rcases List.mem_cons.mp hz with rfl | hz
        · exact y1_1 _ hc1
        · (refine feed (List.mem_map.mp hz) ?_; refine x1_1 ?_; intro p; refine x0_2 ?_; intro hp; intro zz9; subst zz9)
          exact y1_1 p.2 (up2 (keep0 K1 hp))
    (revert hn2; refine x1_1 ?_; intro oz hoz)
    refine ⟨⟨oz, .tail _ (up3 hoz)⟩, hnotin z (fun y hy => ?_) (inl (up3 hoz)) (Nat.ne_of_lt (hd _ hoz)) (fun y hy => frn y hy hoz)⟩
    rcases List.mem_cons.mp hz with rfl | hz
    · (refine feed (six y hy) ?_; refine x1_1 ?_; intro oy h)
      exact Ne.symm (fr2 z (by simp) _ h)
    · rcases List.mem_cons.mp hz with rfl | hz
      · (refine feed (six y hy) ?_; refine x1_1 ?_; intro oy h)
        exact Ne.symm (fr2 z (by simp) _ h)
      · (refine feed (List.mem_map.mp hz) ?_; refine x1_1 ?_; intro p; refine x0_2 ?_; intro hp; intro zz9; subst zz9)
        exact fr1 y hy p hp
theorem sdfa_init2 {w : World} {nw n1 n2 n3 : Led} {x dx tr de fs ol cx cdx d l x' dx' ar' : Addr} {o : Obj} (H1 : NewDfa w nw n1 x dx tr de fs ol) (H2 : NewCount n1 n2 cx cdx) (i4 : o.IsDictOf (PySem.strKind prog w) []) (lo4 : (d == sysModules) = false) (hd : ∀ p ∈ n2, p.1 < d)
    (H3 : NewNode w ((d, o) :: n2) n3 x' dx' ar' 0) (hl : ∀ p ∈ n3, p.1 < l) :
    ∃ G d0 cy cdy led, x = G.x ∧ l = G.nl ∧ d = G.se ∧ cy = cx ∧ (l, listOf #[.ref x'] 0) :: n3 = led ∧ d0.nd = ⟨0, [], false⟩ ∧
    BAt w led G [d0] Bld.empty 1 (cdy :: cy :: nw.map (·.1)) ∧ CountAt led cy cdy 1 ∧ (∀ p ∈ nw, p ∈ led ∧ p.1 ≠ cy ∧ p.1 ≠ cdy) ∧ (∀ z ∈ cdy :: cy :: nw.map (·.1), (∃ oz, (z, oz) ∈ led) ∧ z ∉ G.all [d0]) :=
  let r := sdfa_init H1 H2 i4 lo4 hd H3 hl
  ⟨_, _, _, _, _, rfl, rfl, rfl, rfl, rfl, rfl, r.1, r.2.1, fun p hp => ⟨r.2.2.1 p hp, H2.fresh _ (by simp) _ (keep0 H1.keep hp), H2.fresh _ (by simp) _ (keep0 H1.keep hp)⟩, r.2.2.2⟩
end Sdf0
section Sdf1
section
variable {w : World} {nw l' : Led} {G : Ads} {b : Bld} {c : Nat} {ex : List Addr} {top : NdA} {rest : List NdA} {h₀ h : Heap} {L : Addr}
theorem BAt.trcls {nds : List NdA} (B : BAt w nw G nds b c ex) : True := trivial
theorem BAt.push {cx x' dx' ar' : Addr} {d : Nat} (N : News h₀ L h nw) (B : BAt w nw G (top :: rest) b c ex) (hcx : ∀ o, (cx, o) ∈ nw → o.cls ≠ .type "dict" ∧ o.cls ≠ .type "tuple") (hcx2 : cx ∉ G.all (top :: rest)) (stay : ∀ p ∈ nw, p.1 ≠ cx → p.1 ≠ top.ar → p.1 ≠ G.nl → p ∈ l')
    (hcxin : ∃ o, (cx, o) ∈ nw)
    (hnew : NodeIs w l' ⟨x', dx', ar', ⟨c, [], false⟩⟩) (hfr : ∀ z ∈ [x', dx', ar'], Fresh nw z) (hnd : [x', dx', ar'].Nodup) (hex : ∀ z ∈ ex, ∃ o, (z, o) ∈ nw)
    (hnl : ∃ k, (G.nl, listOf ((⟨x', dx', ar', ⟨c, [], false⟩⟩ :: top :: rest).reverse.map fun d => Value.ref d.x).toArray k) ∈ l') (har : ArcsAt w l' top.ar (setArc top.nd.arcs d c)) :
    BAt w l' G (⟨x', dx', ar', ⟨c, [], false⟩⟩ :: ⟨top.x, top.dx, top.ar, ⟨top.nd.n, setArc top.nd.arcs d c, top.nd.fin⟩⟩ :: rest) b (c + 1) ex := by
  have hf := Ads.fix_nodup B.nodup
  replace hf := Ads.fix_ne hf
  (revert hf; refine x0_8 ?_; refine x0_7 ?_; intro f1 f2 f3 f4 f5 f6 f7; refine x0_6 ?_; intro e2 e3 e4 e5 e6 e7; refine x0_5 ?_; intro d3 d4 d5 d6 d7; refine x0_4 ?_; intro c4 c5 c6 c7; refine x0_3 ?_; intro b5 b6 b7; refine x0_2 ?_; intro a6 a7; intro z7 _)
  have har0 : top.ar ∈ top.foot := by simp [NdA.foot]
  have nfix : ∀ z ∈ G.fix, z ≠ cx := fun z hz e => hcx2 (e ▸ Ads.mem_fix hz)
  have nfoot : ∀ d ∈ top :: rest, ∀ z ∈ d.foot, z ≠ cx := fun d hd z hz e => hcx2 (e ▸ Ads.mem_foot hd hz)
  have go : ∀ z o, z ∈ [G.x, G.dx, G.tr, G.de, G.ol, G.fs, G.se] → (z, o) ∈ nw → (z, o) ∈ l' := fun z o hz hm => by
    have hzf : z ∈ G.fix := by
      simp only [Ads.fix, List.mem_cons, List.not_mem_nil, or_false] at hz ⊢
      rcases hz with h | h | h | h | h | h | h <;> simp [h]
    refine stay _ hm (nfix z hzf) (fun e => Ads.off B.nodup (.head _) hzf har0 e.symm) ?_
    simp only [List.mem_cons, List.not_mem_nil, or_false] at hz
    rcases hz with rfl | rfl | rfl | rfl | rfl | rfl | rfl <;> first | assumption | exact Ne.symm (by assumption)
  (refine feed (B.de) ?_; refine x1_1 ?_; intro o1; refine x0_2 ?_; intro y1 z1)
  (refine feed (B.ol) ?_; refine x1_1 ?_; intro o2; refine x0_2 ?_; intro y2 z2)
  have hfoot := Ads.foot_nodup B.nodup
  replace hfoot := NdA.foot_ne hfoot
  have hal : G.all (⟨x', dx', ar', ⟨c, [], false⟩⟩ :: ⟨top.x, top.dx, top.ar, ⟨top.nd.n, setArc top.nd.arcs d c, top.nd.fin⟩⟩ :: rest) = G.fix ++ ([x', dx', ar'] ++ (top :: rest).flatMap NdA.foot) := rfl
  have hal0 : G.all (top :: rest) = G.fix ++ (top :: rest).flatMap NdA.foot := rfl
  refine ⟨B.dfa.mono (fun o hm => go _ o (by repeat (first | exact List.Mem.head _ | refine List.Mem.tail _ ?_)) hm) (fun o hm => go _ o (by repeat (first | exact List.Mem.head _ | refine List.Mem.tail _ ?_)) hm), ⟨o1, go _ _ (by repeat (first | exact List.Mem.head _ | refine List.Mem.tail _ ?_)) y1, z1⟩, ⟨o2, go _ _ (by repeat (first | exact List.Mem.head _ | refine List.Mem.tail _ ?_)) y2, z2⟩, B.fs.mono (fun o hm => go _ o (by repeat (first | exact List.Mem.head _ | refine List.Mem.tail _ ?_)) hm), ?_, by simpa using hnl, fun dd hd => ?_, B.se.mono (fun o hm => go _ o (by repeat (first | exact List.Mem.head _ | refine List.Mem.tail _ ?_)) hm) ?_, ?_, ?_, fun dd hd => ?_, B.lo⟩
  · refine ((B.tr.more (l' := nw) hfr).mono fun p hp hc hz => ?_).sub (fun q => rfl) (Nat.le_refl _) fun z hz => ?_
    · have hz' : p.1 ≠ G.nl ∧ p.1 ≠ top.ar := by
        rcases hz with hz | hz
        · rw [hz]; exact ⟨d6, fun e => Ads.off B.nodup (.head _) (y := G.tr) (by first | with_reducible exact Ads.f1 _ | with_reducible exact Ads.f2 _ | with_reducible exact Ads.f3 _ | with_reducible exact Ads.f4 _ | with_reducible exact Ads.f5 _ | with_reducible exact Ads.f6 _ | with_reducible exact Ads.f7 _ | with_reducible exact Ads.f8 _ | simp [Ads.fix]) har0 e.symm⟩
        · refine ⟨fun e => hz (List.mem_append_right _ (List.mem_append_left _ (by rw [e]; exact Ads.mem_fix (by first | with_reducible exact Ads.f1 _ | with_reducible exact Ads.f2 _ | with_reducible exact Ads.f3 _ | with_reducible exact Ads.f4 _ | with_reducible exact Ads.f5 _ | with_reducible exact Ads.f6 _ | with_reducible exact Ads.f7 _ | with_reducible exact Ads.f8 _ | simp [Ads.fix])))), fun e => hz (List.mem_append_right _ (List.mem_append_left _ (by rw [e]; exact Ads.mem_foot (.head _) har0)))⟩
      refine stay p hp (fun e => ?_) hz'.2 hz'.1
      obtain ⟨p1, p2⟩ := p
      simp only at e hc
      subst e
      exact (hcx _ hp).1 hc
    · rcases List.mem_append.mp hz with hz | hz
      · rw [hal] at hz
        rcases List.mem_append.mp hz with hz | hz
        · exact List.mem_append_right _ (List.mem_append_left _ (List.mem_append_left _ hz))
        · rcases List.mem_append.mp hz with hz | hz
          · exact List.mem_append_left _ hz
          · exact List.mem_append_right _ (List.mem_append_left _ (List.mem_append_right _ hz))
      · exact List.mem_append_right _ (List.mem_append_right _ hz)
  · rcases List.mem_cons.mp hd with rfl | hd
    · exact hnew
    · rcases List.mem_cons.mp hd with rfl | hd
      · (refine feed (B.nodes top (.head _)) ?_; rintro ⟨zq0, _, lo⟩; revert zq0; refine x0_2 ?_; intro a1; refine x7_1 ?_; intro g1 g2 g3 t1 t2 t3 tn a2)
        have st : ∀ z o, z = top.x ∨ z = top.dx → (z, o) ∈ nw → (z, o) ∈ l' := fun z o hz hm => by
          have hzf : z ∈ top.foot := by rcases hz with h | h <;> simp [NdA.foot, h]
          refine stay _ hm (nfoot top (.head _) z hzf) ?_ (Ads.off B.nodup (.head _) (by first | with_reducible exact Ads.f1 _ | with_reducible exact Ads.f2 _ | with_reducible exact Ads.f3 _ | with_reducible exact Ads.f4 _ | with_reducible exact Ads.f5 _ | with_reducible exact Ads.f6 _ | with_reducible exact Ads.f7 _ | with_reducible exact Ads.f8 _ | simp [Ads.fix]) hzf)
          rcases hz with rfl | rfl
          · exact hfoot.1.2
          · exact hfoot.2.1
        exact ⟨⟨st _ _ (.inl rfl) a1, g1, g2, g3, t1, t2, t3, tn, st _ _ (.inr rfl) a2⟩, har, lo⟩
      · exact (B.nodes dd (.tail _ hd)).mono fun p hp hz => stay p hp (nfoot dd (.tail _ hd) _ hz) (Ads.apart B.nodup hd har0 hz) (Ads.off B.nodup (.tail _ hd) (by first | with_reducible exact Ads.f1 _ | with_reducible exact Ads.f2 _ | with_reducible exact Ads.f3 _ | with_reducible exact Ads.f4 _ | with_reducible exact Ads.f5 _ | with_reducible exact Ads.f6 _ | with_reducible exact Ads.f7 _ | with_reducible exact Ads.f8 _ | simp [Ads.fix]) hz)
  · refine tups_stay N (W := [cx, top.ar, G.nl]) (fun z hz => ?_) fun p hp hn hc => ?_
    · simp only [List.mem_cons, List.not_mem_nil, or_false] at hz
      rcases hz with rfl | rfl | rfl
      · (revert hcxin; refine x1_1 ?_; intro o ho)
        exact y1_1 o (ya2 ho ((hcx o ho).2))
      · exact (B.nodes top (.head _)).cls_ar
      · exact B.cls_nl
    · simp only [List.mem_cons, List.not_mem_nil, or_false, not_or] at hn
      exact stay p hp hn.1 hn.2.1 hn.2.2
  · rw [hal]
    have h0 := B.nodup
    rw [hal0] at h0
    (refine feed (List.nodup_append.mp h0) ?_; refine x0_3 ?_; intro n1 n2 n3)
    refine List.nodup_append.mpr ⟨n1, List.nodup_append.mpr ⟨hnd, n2, fun y hy z hz => ?_⟩, fun y hy z hz => ?_⟩
    · (refine feed (B.there z (by rw [hal0]; exact List.mem_append_right _ hz)) ?_; refine x1_1 ?_; intro o ho)
      exact Ne.symm (hfr y hy _ ho)
    · rcases List.mem_append.mp hz with hz | hz
      · (refine feed (B.there y (by rw [hal0]; exact List.mem_append_left _ hy)) ?_; refine x1_1 ?_; intro o ho)
        exact hfr z hz _ ho
      · exact n3 y hy z hz
  · have := B.cnt
    simp only [List.length_cons] at this ⊢
    lia
  · rcases List.mem_cons.mp hd with rfl | hd
    · exact Nat.lt_succ_self _
    · rcases List.mem_cons.mp hd with rfl | hd
      · exact Nat.lt_succ_of_lt (B.lt top (.head _))
      · exact Nat.lt_succ_of_lt (B.lt dd (.tail _ hd))
theorem BAt.setfin (N : News h₀ L h nw) (B : BAt w nw G (top :: rest) b c ex) (stay : ∀ p ∈ nw, p.1 ≠ top.dx → p ∈ l')
    (hdx : ∃ h1 h2 h3 t1 t2 t3 tn, (top.dx, dictOf [⟨h1, .str "n" t1, .int top.nd.n tn⟩, ⟨h2, .str "arcs" t2, .ref top.ar⟩, ⟨h3, .str "final" t3, .bool true⟩] 3) ∈ l') :
    BAt w l' G (⟨top.x, top.dx, top.ar, ⟨top.nd.n, top.nd.arcs, true⟩⟩ :: rest) b c ex := by
  have hdx0 : top.dx ∈ top.foot := by simp [NdA.foot]
  have go : ∀ z o, z ∈ G.fix → (z, o) ∈ nw → (z, o) ∈ l' := fun z o hz hm => stay _ hm fun e => Ads.off B.nodup (.head _) hz hdx0 e.symm
  (refine feed (B.de) ?_; refine x1_1 ?_; intro o1; refine x0_2 ?_; intro y1 z1)
  (refine feed (B.ol) ?_; refine x1_1 ?_; intro o2; refine x0_2 ?_; intro y2 z2)
  (refine feed (B.nl) ?_; refine x1_1 ?_; intro k hk)
  have hfoot := Ads.foot_nodup B.nodup
  replace hfoot := NdA.foot_ne hfoot
  refine ⟨B.dfa.mono (fun o hm => go _ o (by first | with_reducible exact Ads.f1 _ | with_reducible exact Ads.f2 _ | with_reducible exact Ads.f3 _ | with_reducible exact Ads.f4 _ | with_reducible exact Ads.f5 _ | with_reducible exact Ads.f6 _ | with_reducible exact Ads.f7 _ | with_reducible exact Ads.f8 _ | simp [Ads.fix]) hm) (fun o hm => go _ o (by first | with_reducible exact Ads.f1 _ | with_reducible exact Ads.f2 _ | with_reducible exact Ads.f3 _ | with_reducible exact Ads.f4 _ | with_reducible exact Ads.f5 _ | with_reducible exact Ads.f6 _ | with_reducible exact Ads.f7 _ | with_reducible exact Ads.f8 _ | simp [Ads.fix]) hm), ⟨o1, go _ _ (by first | with_reducible exact Ads.f1 _ | with_reducible exact Ads.f2 _ | with_reducible exact Ads.f3 _ | with_reducible exact Ads.f4 _ | with_reducible exact Ads.f5 _ | with_reducible exact Ads.f6 _ | with_reducible exact Ads.f7 _ | with_reducible exact Ads.f8 _ | simp [Ads.fix]) y1, z1⟩, ⟨o2, go _ _ (by first | with_reducible exact Ads.f1 _ | with_reducible exact Ads.f2 _ | with_reducible exact Ads.f3 _ | with_reducible exact Ads.f4 _ | with_reducible exact Ads.f5 _ | with_reducible exact Ads.f6 _ | with_reducible exact Ads.f7 _ | with_reducible exact Ads.f8 _ | simp [Ads.fix]) y2, z2⟩, B.fs.mono (fun o hm => go _ o (by first | with_reducible exact Ads.f1 _ | with_reducible exact Ads.f2 _ | with_reducible exact Ads.f3 _ | with_reducible exact Ads.f4 _ | with_reducible exact Ads.f5 _ | with_reducible exact Ads.f6 _ | with_reducible exact Ads.f7 _ | with_reducible exact Ads.f8 _ | simp [Ads.fix]) hm), ?_, ⟨k, go _ _ (by first | with_reducible exact Ads.f1 _ | with_reducible exact Ads.f2 _ | with_reducible exact Ads.f3 _ | with_reducible exact Ads.f4 _ | with_reducible exact Ads.f5 _ | with_reducible exact Ads.f6 _ | with_reducible exact Ads.f7 _ | with_reducible exact Ads.f8 _ | simp [Ads.fix]) (by simpa using hk)⟩, fun dd hd => ?_, B.se.mono (fun o hm => go _ o (by first | with_reducible exact Ads.f1 _ | with_reducible exact Ads.f2 _ | with_reducible exact Ads.f3 _ | with_reducible exact Ads.f4 _ | with_reducible exact Ads.f5 _ | with_reducible exact Ads.f6 _ | with_reducible exact Ads.f7 _ | with_reducible exact Ads.f8 _ | simp [Ads.fix]) hm) ?_, B.nodup, B.cnt, fun dd hd => ?_, B.lo⟩
  · refine B.tr.mono fun p hp hc hz => stay p hp fun e => ?_
    rcases hz with hz | hz
    · rw [hz] at e
      exact Ads.off B.nodup (.head _) (y := G.tr) (by first | with_reducible exact Ads.f1 _ | with_reducible exact Ads.f2 _ | with_reducible exact Ads.f3 _ | with_reducible exact Ads.f4 _ | with_reducible exact Ads.f5 _ | with_reducible exact Ads.f6 _ | with_reducible exact Ads.f7 _ | with_reducible exact Ads.f8 _ | simp [Ads.fix]) hdx0 e.symm
    · exact hz (List.mem_append_left _ (by rw [e]; exact Ads.mem_foot (.head _) hdx0))
  · rcases List.mem_cons.mp hd with rfl | hd
    · (refine feed (B.nodes top (.head _)) ?_; rintro ⟨zq0, zq1, lo⟩; revert zq0; refine x0_2 ?_; intro a1 _; revert zq1; refine x2_1 ?_; intro o kv; refine x0_2 ?_; intro c1 c2)
      exact ⟨⟨stay _ a1 hfoot.1.1, hdx⟩, ⟨o, kv, stay _ c1 (Ne.symm hfoot.2.1), c2⟩, lo⟩
    · exact (B.nodes dd (.tail _ hd)).mono fun p hp hz => stay p hp (Ads.apart B.nodup hd hdx0 hz)
  · refine tups_stay N (W := [top.dx]) (fun z hz => ?_) fun p hp hn hc => stay p hp (by simpa using hn)
    have : z = top.dx := by simpa using hz
    subst this
    (refine feed (B.nodes top (.head _)) ?_; rintro ⟨zq0, _⟩; revert zq0; refine x0_2 ?_; intro _; refine x7_1 ?_; intro g1 g2 g3 t1 t2 t3 tn a2)
    exact y1_1 _ (ya2 a2 (by simp))
  · rcases List.mem_cons.mp hd with rfl | hd
    · exact B.lt top (.head _)
    · exact B.lt dd (.tail _ hd)
end
/-- where a loop ends -/
noncomputable def WX {α : Type} (A₀ : Around) (base : Heap) (outer : List Env) (g : Heap) (L : Addr) (names : α → List (Str × Value)) (loose : Str → Prop) (m₀ : Str → Option Value) (D : α → Led → Prop) (s : Shared) (f : Flow) (s₂ : Shared) : Prop :=
  f = .next ∧ ∃ g' h tk m nw st, s₂ = { s with heap := h, toks := tk } ∧ TurnS A₀ base outer g g' ∧ Fr g' L h m ∧ News g' L h nw ∧ (∀ p ∈ names st, m p.1 = some p.2) ∧ (∀ y, ¬ loose y → (∀ p ∈ names st, y ≠ p.1) → m y = m₀ y) ∧ D st nw
theorem WX.intro {α : Type} {A₀ : Around} {base : Heap} {outer : List Env} {g : Heap} {L : Addr} {names : α → List (Str × Value)} {loose : Str → Prop} {m₀ m : Str → Option Value} {D : α → Led → Prop} {s : Shared} {g' h : Heap} {tk : Nat} {nw : Led} (st : α)
    (T : TurnS A₀ base outer g g') (F : Fr g' L h m) (N : News g' L h nw) (h1 : ∀ p ∈ names st, m p.1 = some p.2) (h2 : ∀ y, ¬ loose y → (∀ p ∈ names st, y ≠ p.1) → m y = m₀ y) (hD : D st nw) : WX A₀ base outer g L names loose m₀ D s .next { s with heap := h, toks := tk } :=
  ⟨rfl, g', h, tk, m, nw, st, rfl, T, F, N, h1, h2, hD⟩
theorem While_X {α : Type} {w : World} {A A₀ : Around} {base : Heap} {outer : List Env} {E : Value → Shared → Prop} {Q : Flow → Shared → Prop} {s : Shared} {env : Env} {g : Heap} {L : Addr} {test : Expr} {body : List Stmt} {pos : Pos} {m₀ : Str → Option Value} {nw : Led}
    (names : α → List (Str × Value)) (loose : Str → Prop) (J : Nat → α → Led → Prop) (D : α → Led → Prop) (st₀ : α) (n₀ : Nat)
    (T : TurnS A₀ base outer g g) (F : Fr g L s.heap m₀) (N : News g L s.heap nw) (hm0 : ∀ p ∈ names st₀, m₀ p.1 = some p.2) (hJ : J n₀ st₀ nw)
    (turn : ∀ (KW : Nat → Flow → Shared → Prop) (KX : Flow → Shared → Prop), (∀ n f s', WPost A₀ base outer g L names loose m₀ J n (WX A₀ base outer g L names loose m₀ D s) s f s' → KW n f s') → (∀ f s', WX A₀ base outer g L names loose m₀ D s f s' → KX f s') → ∀ n st g' m₁ nw₁ h₁ tk₁, TurnS A₀ base outer g g' → Fr g' L h₁ m₁ → News g' L h₁ nw₁ → (∀ p ∈ names st, m₁ p.1 = some p.2) → (∀ y, ¬ loose y → (∀ p ∈ names st, y ≠ p.1) → m₁ y = m₀ y) → J n st nw₁ →
      wpAny (model prog w) A (isTrue test env (eval test env)) (fun b s₂ =>
        if b = true then wpAny (model prog w) A (execs body env) (KW n) E s₂ else KX .next s₂) E { s with heap := h₁, toks := tk₁ })
    (after : ∀ g' h tk m nw st, TurnS A₀ base outer g g' → Fr g' L h m → News g' L h nw → (∀ p ∈ names st, m p.1 = some p.2) → (∀ y, ¬ loose y → (∀ p ∈ names st, y ≠ p.1) → m y = m₀ y) → D st nw → Q .next { s with heap := h, toks := tk })
    (hE : PassesOwn (model prog w) A env E := by passes_own) :
    wpAny (model prog w) A (exec (.While test body [] pos) env) Q E s := by
  refine wpAny_mono (While_S (Q := WX A₀ base outer g L names loose m₀ D s) names loose J st₀ n₀ T F N hm0 hJ (fun KW hKW => turn KW (WX A₀ base outer g L names loose m₀ D s) hKW (fun _ _ h => h)) hE) ?_ fun _ _ x => x
  rintro f s₂ ⟨rfl, g', h, tk, m, nw', st, rfl, a, b, c, d, e, f⟩
  exact after g' h tk m nw' st a b c d e f
theorem BAt.mono {w : World} {nw l' : Led} {G : Ads} {nds : List NdA} {b : Bld} {c : Nat} {ex : List Addr} (B : BAt w nw G nds b c ex) (hs : ∀ p ∈ nw, p.1 ∈ G.all nds ∨ p.2.cls = .type "dict" ∨ p.2.cls = .type "tuple" → p ∈ l') : BAt w l' G nds b c ex := by
  have fx : ∀ z o, z ∈ G.fix → (z, o) ∈ nw → (z, o) ∈ l' := fun z o hz hm => hs _ hm (.inl (Ads.mem_fix hz))
  (refine feed (B.de) ?_; refine x1_1 ?_; intro o1; refine x0_2 ?_; intro y1 z1)
  (refine feed (B.ol) ?_; refine x1_1 ?_; intro o2; refine x0_2 ?_; intro y2 z2)
  (refine feed (B.nl) ?_; refine x1_1 ?_; intro k hk)
  exact ⟨B.dfa.mono (fun o hm => fx _ o (by first | with_reducible exact Ads.f1 _ | with_reducible exact Ads.f2 _ | with_reducible exact Ads.f3 _ | with_reducible exact Ads.f4 _ | with_reducible exact Ads.f5 _ | with_reducible exact Ads.f6 _ | with_reducible exact Ads.f7 _ | with_reducible exact Ads.f8 _ | simp [Ads.fix]) hm) (fun o hm => fx _ o (by first | with_reducible exact Ads.f1 _ | with_reducible exact Ads.f2 _ | with_reducible exact Ads.f3 _ | with_reducible exact Ads.f4 _ | with_reducible exact Ads.f5 _ | with_reducible exact Ads.f6 _ | with_reducible exact Ads.f7 _ | with_reducible exact Ads.f8 _ | simp [Ads.fix]) hm), ⟨o1, fx _ _ (by first | with_reducible exact Ads.f1 _ | with_reducible exact Ads.f2 _ | with_reducible exact Ads.f3 _ | with_reducible exact Ads.f4 _ | with_reducible exact Ads.f5 _ | with_reducible exact Ads.f6 _ | with_reducible exact Ads.f7 _ | with_reducible exact Ads.f8 _ | simp [Ads.fix]) y1, z1⟩, ⟨o2, fx _ _ (by first | with_reducible exact Ads.f1 _ | with_reducible exact Ads.f2 _ | with_reducible exact Ads.f3 _ | with_reducible exact Ads.f4 _ | with_reducible exact Ads.f5 _ | with_reducible exact Ads.f6 _ | with_reducible exact Ads.f7 _ | with_reducible exact Ads.f8 _ | simp [Ads.fix]) y2, z2⟩, B.fs.mono (fun o hm => fx _ o (by first | with_reducible exact Ads.f1 _ | with_reducible exact Ads.f2 _ | with_reducible exact Ads.f3 _ | with_reducible exact Ads.f4 _ | with_reducible exact Ads.f5 _ | with_reducible exact Ads.f6 _ | with_reducible exact Ads.f7 _ | with_reducible exact Ads.f8 _ | simp [Ads.fix]) hm),
    B.tr.mono fun p hp hc _ => hs p hp (.inr (.inl hc)), ⟨k, fx _ _ (by first | with_reducible exact Ads.f1 _ | with_reducible exact Ads.f2 _ | with_reducible exact Ads.f3 _ | with_reducible exact Ads.f4 _ | with_reducible exact Ads.f5 _ | with_reducible exact Ads.f6 _ | with_reducible exact Ads.f7 _ | with_reducible exact Ads.f8 _ | simp [Ads.fix]) hk⟩, fun d hd => (B.nodes d hd).mono fun p hp hz => hs p hp (.inl (Ads.mem_foot hd hz)), B.se.mono (fun o hm => fx _ o (by first | with_reducible exact Ads.f1 _ | with_reducible exact Ads.f2 _ | with_reducible exact Ads.f3 _ | with_reducible exact Ads.f4 _ | with_reducible exact Ads.f5 _ | with_reducible exact Ads.f6 _ | with_reducible exact Ads.f7 _ | with_reducible exact Ads.f8 _ | simp [Ads.fix]) hm) (fun a xs hm => hs _ hm (.inr (.inr rfl))), B.nodup, B.cnt, B.lt, B.lo⟩
theorem BAt.mono1 {w : World} {nw l' : Led} {G : Ads} {nds : List NdA} {b : Bld} {c : Nat} {ex : List Addr} {h₀ h : Heap} {L it : Addr} {oi : Obj} (N : News h₀ L h nw) (B : BAt w nw G nds b c ex) (hit : (it, oi) ∈ nw) (h1 : oi.cls ≠ .type "dict") (h2 : oi.cls ≠ .type "tuple") (hn : it ∉ G.all nds) (hs : ∀ p ∈ nw, p.1 ≠ it → p ∈ l') : BAt w l' G nds b c ex :=
  B.mono fun p hp hz => hs p hp fun e => by
    obtain ⟨p1, p2⟩ := p
    simp only at e hz
    subst e
    have := same_at N hp hit
    subst this
    rcases hz with hz | hz | hz
    · exact hn hz
    · exact h1 hz
    · exact h2 hz
end Sdf1
section Sdf2
noncomputable def SdI (w : World) (nw : Led) (G : Ads) (N : Nat) (ts : List (List Nat)) (ex : List Addr) (cx cdx : Addr) (z : Str) (tz : Tok) (it2 it : Addr) (oi : Obj) (k p c : Nat) (b : Bld) (str : List Nat) (n : Nat) (_ : Unit) (l : Led) : Prop :=
  ∃ j top rest cs oi2, n = N - p - j ∧ p + j ≤ N ∧ (it2, oi2) ∈ l ∧ StrIt oi2 z tz j ∧ BAt w l G (top :: rest) b (c + j) ex ∧ CountAt l cx cdx ((c + j : Nat) : Int) ∧ PPre b N (c + j) ((top :: rest).map (·.nd)) cs (fun x => x ∈ ts.take k) ∧ cs.reverse = str.take (p + j) ∧ (top :: rest).length = p + j + 1 ∧
    ((top :: rest).map (·.nd.n)).getLast? = some 0 ∧ (∀ d ∈ top :: rest, d.nd.arcs.length ≤ k + 1) ∧ (j = 0 → top.nd.arcs.length ≤ k ∧ ∀ a ∈ top.nd.arcs, ∀ y, str[p]? = some y → a.1 < y) ∧ (0 < j → top.nd.arcs = [] ∧ top.nd.fin = false) ∧ (∀ p ∈ nw, p ∈ l) ∧ (it, oi) ∈ l ∧ (∀ z ∈ it2 :: it :: ex, z ∉ G.all (top :: rest))
theorem SdI.step {w : World} {nw : Led} {G : Ads} {N : Nat} {ts : List (List Nat)} {ex : List Addr} {cx cdx : Addr} {z : Str} {tz : Tok} {it2 it : Addr} {oi oi5 ocx : Obj} {k p c : Nat} {b : Bld} {str : List Nat} {j d kk : Nat} {top : NdA} {rest : List NdA} {cs : List Nat} {l₅ n₁ n₂ : Led} {g h : Heap} {L : Addr}
    {x' dx' ar' : Addr} {o' oar : Obj} {kv : List (Str × Value)} {tn' : Tok}
    (N5 : News g L h l₅) (hd : str[p + j]? = some d) (hpj : p + j < N) (hsl : str.length = N) (hit5 : (it2, oi5) ∈ l₅) (hIt5 : StrIt oi5 z tz (j + 1)) (Bt5 : BAt w l₅ G (top :: rest) b (c + j) ex) (hct1 : (cx, ocx) ∈ l₅) (hcx1 : ocx.cls ≠ .type "dict") (hcx2 : ocx.cls ≠ .type "tuple")
    (hct2 : (cdx, dictOf [] 0) ∈ l₅) (P4 : PPre b N (c + j) ((top :: rest).map (·.nd)) cs (fun x => x ∈ ts.take k)) (hcs4 : cs.reverse = str.take (p + j)) (hl4 : (top :: rest).length = p + j + 1) (hroot4 : ((top :: rest).map (·.nd.n)).getLast? = some 0)
    (hsm4 : ∀ d ∈ top :: rest, d.nd.arcs.length ≤ k + 1) (htop0 : j = 0 → top.nd.arcs.length ≤ k ∧ ∀ a ∈ top.nd.arcs, ∀ y, str[p]? = some y → a.1 < y) (htop1 : 0 < j → top.nd.arcs = [] ∧ top.nd.fin = false) (hnw5 : ∀ p ∈ nw, p ∈ l₅) (hitm5 : (it, oi) ∈ l₅)
    (hex4 : ∀ z ∈ it2 :: it :: ex, z ∉ G.all (top :: rest)) (hexin : ∀ z ∈ ex, ∃ o, (z, o) ∈ l₅) (hcxe : cx ∈ ex) (hcdxe : cdx ∈ ex) (hnwe : ∀ p ∈ nw, p.1 ∈ ex) (hnecx : ∀ p ∈ nw, p.1 ≠ cx) (hicx : it ≠ cx) (hi2cx : it2 ≠ cx)
    (kB : Keep [cx] l₅ n₁) (hc' : CountAt n₁ cx cdx (((c + j : Nat) : Int) + 1)) (hNew : NewNode w n₁ n₂ x' dx' ar' ((c + j : Nat) : Int)) (hd' : o'.IsDictOf (PySem.strKind prog w) (stored kv (ch d) (.int ((c + j : Nat) : Int) tn'))) (ha : (top.ar, oar) ∈ l₅) (hav : ArcsV kv top.nd.arcs) :
    SdI w nw G N ts ex cx cdx z tz it2 it oi k p c b str (N - p - (j + 1)) () (put G.nl (listOf (((rest.reverse.map fun d => Value.ref d.x) ++ [Value.ref top.x]).toArray.push (Value.ref x')) (kk + 1)) (put top.ar o' n₂)) := by
  have hlen := P4.pok.length
  simp only [List.length_map] at hlen
  have hcl : cs.length = p + j := by lia
  have harall : top.ar ∈ G.all (top :: rest) := Ads.mem_foot (.head _) (by first | with_reducible exact NdA.f1 _ | with_reducible exact NdA.f2 _ | with_reducible exact NdA.f3 _ | simp [NdA.foot])
  have hnlall : G.nl ∈ G.all (top :: rest) := Ads.mem_fix (by first | with_reducible exact Ads.f1 _ | with_reducible exact Ads.f2 _ | with_reducible exact Ads.f3 _ | with_reducible exact Ads.f4 _ | with_reducible exact Ads.f5 _ | with_reducible exact Ads.f6 _ | with_reducible exact Ads.f7 _ | with_reducible exact Ads.f8 _ | simp [Ads.fix])
  have hcxall : cx ∉ G.all (top :: rest) := hex4 cx (.tail _ (.tail _ hcxe))
  have in1 : ∀ {z oz}, (z, oz) ∈ l₅ → ∃ o, (z, o) ∈ n₁ := fun {z oz} hz => by
    by_cases e : z = cx
    · (revert hc'; refine x3_1 ?_; intro _ _ _; refine x0_2 ?_; intro h1 _)
      subst e
      exact y1_1 _ h1
    · exact y1_1 oz (kB _ hz (by simpa using e))
  have fr5 : ∀ z ∈ [x', dx', ar'], ∀ {y oy}, (y, oy) ∈ l₅ → y ≠ z := fun z hz y oy hy => by
    (refine feed (in1 hy) ?_; refine x1_1 ?_; intro o ho)
    exact hNew.fresh z hz _ ho
  have up : ∀ q ∈ n₂, q.1 ≠ top.ar → q.1 ≠ G.nl → q ∈ put G.nl (listOf (((rest.reverse.map fun d => Value.ref d.x) ++ [Value.ref top.x]).toArray.push (Value.ref x')) (kk + 1)) (put top.ar o' n₂) := fun q hq h1 h2 => mem_put_of (mem_put_of hq h1) h2
  have stay : ∀ q ∈ l₅, q.1 ≠ cx → q.1 ≠ top.ar → q.1 ≠ G.nl → q ∈ put G.nl (listOf (((rest.reverse.map fun d => Value.ref d.x) ++ [Value.ref top.x]).toArray.push (Value.ref x')) (kk + 1)) (put top.ar o' n₂) := fun q hq h1 h2 h3 => up q (keep0 hNew.keep (kB q hq (by simpa using h1))) h2 h3
  have stayE : ∀ {z oz}, (z, oz) ∈ l₅ → z ∉ G.all (top :: rest) → z ≠ cx → (z, oz) ∈ put G.nl (listOf (((rest.reverse.map fun d => Value.ref d.x) ++ [Value.ref top.x]).toArray.push (Value.ref x')) (kk + 1)) (put top.ar o' n₂) := fun {z oz} hz hn hc => stay _ hz hc (fun e => hn (by simp only at e; rw [e]; exact harall)) (fun e => hn (by simp only at e; rw [e]; exact hnlall))
  have hdl : ∀ a ∈ top.nd.arcs, a.1 < d := fun a ha => by
    by_cases h0 : j = 0
    · subst h0
      exact (htop0 rfl).2 a ha d hd
    · rw [(htop1 (by lia)).1] at ha; cases ha
  (refine feed (PPre.push (top := top.nd) (rest := rest.map (·.nd)) P4 hdl (by lia)) ?_; refine x0_2 ?_; intro P5 es)
  have hnlar : G.nl ≠ top.ar := fun e => Ads.off Bt5.nodup (.head _) (y := G.nl) (by first | with_reducible exact Ads.f1 _ | with_reducible exact Ads.f2 _ | with_reducible exact Ads.f3 _ | with_reducible exact Ads.f4 _ | with_reducible exact Ads.f5 _ | with_reducible exact Ads.f6 _ | with_reducible exact Ads.f7 _ | with_reducible exact Ads.f8 _ | simp [Ads.fix]) (by first | with_reducible exact NdA.f1 _ | with_reducible exact NdA.f2 _ | with_reducible exact NdA.f3 _ | simp [NdA.foot]) e.symm
  (refine feed (And.intro hNew.at_ hNew.arcs) ?_; refine x0_2 ?_; refine x0_2 ?_; intro b1; refine x7_1 ?_; intro h1 h2 h3 s1 s2 s3 sn b2; refine x1_1 ?_; intro oa; refine x0_2 ?_; intro a1 a2)
  have fr3 : ∀ z ∈ [x', dx', ar'], z ≠ top.ar ∧ z ≠ G.nl := fun z hz => by
    (refine feed (Bt5.nl) ?_; refine x1_1 ?_; intro o2 ho2)
    exact ⟨Ne.symm (fr5 z hz ha), Ne.symm (fr5 z hz ho2)⟩
  have hBt := BAt.push (cx := cx) (x' := x') (dx' := dx') (ar' := ar') (d := d) N5 Bt5 (fun o ho => by
    have := same_at N5 ho hct1
    subst this
    exact ⟨hcx1, hcx2⟩) hcxall stay ⟨_, hct1⟩ ⟨⟨up _ b1 (fr3 x' (by simp)).1 (fr3 x' (by simp)).2, h1, h2, h3, s1, s2, s3, sn, up _ b2 (fr3 dx' (by simp)).1 (fr3 dx' (by simp)).2⟩, ⟨oa, [], up _ a1 (fr3 ar' (by simp)).1 (fr3 ar' (by simp)).2, a2, trivial⟩, hNew.lo⟩
    (fun z hz q hq => fr5 z hz hq) hNew.nodup hexin ⟨kk + 1, by simpa using mem_put⟩ ⟨o', _, mem_put_of mem_put (Ne.symm hnlar), hd', hav.stored d (c + j) tn'⟩
  have hall : ∀ y, y ∉ G.all (top :: rest) → (∃ o, (y, o) ∈ l₅) → y ∉ G.all (⟨x', dx', ar', ⟨c + j, [], false⟩⟩ :: ⟨top.x, top.dx, top.ar, ⟨top.nd.n, setArc top.nd.arcs d (c + j), top.nd.fin⟩⟩ :: rest) := fun y hy ⟨oy, hoy⟩ hm => by
    have e : G.all (⟨x', dx', ar', ⟨c + j, [], false⟩⟩ :: ⟨top.x, top.dx, top.ar, ⟨top.nd.n, setArc top.nd.arcs d (c + j), top.nd.fin⟩⟩ :: rest) = G.fix ++ ([x', dx', ar'] ++ (top :: rest).flatMap NdA.foot) := rfl
    rw [e] at hm
    rcases List.mem_append.mp hm with hm | hm
    · exact hy (List.mem_append_left _ hm)
    · rcases List.mem_append.mp hm with hm | hm
      · exact fr5 y hm hoy rfl
      · exact hy (List.mem_append_right _ hm)
  refine y5_1 (j + 1) _ _ (d :: cs) oi5 (ya16 rfl (by lia) (stayE hit5 (hex4 it2 (.head _)) hi2cx) hIt5 hBt ?_ P5 ?_ ?_ ?_ ?_ (fun h => absurd h (Nat.succ_ne_zero _)) (fun _ => ⟨rfl, rfl⟩) (fun q hq => stayE (hnw5 q hq) (hex4 _ (.tail _ (.tail _ (hnwe q hq)))) (hnecx q hq)) (stayE hitm5 (hex4 it (.tail _ (.head _))) hicx) (fun y hy => ?_))
  · (revert hc'; refine x3_1 ?_; intro cb e1 e2; refine x0_2 ?_; intro e3 e4)
    refine y3_1 cb e1 e2 (ya2 (up _ (keep0 hNew.keep e3) (fun e => hcxall (by simp only at e; rw [e]; exact harall)) (fun e => hcxall (by simp only at e; rw [e]; exact hnlall))) ?_)
    have hcd := hex4 cdx (.tail _ (.tail _ hcdxe))
    exact up _ (keep0 hNew.keep e4) (fun e => hcd (by simp only at e; rw [e]; exact harall)) (fun e => hcd (by simp only at e; rw [e]; exact hnlall))
  · rw [List.reverse_cons, hcs4, ← Nat.add_assoc, List.take_add_one, hd]; rfl
  · simp only [List.length_cons] at hl4 ⊢; lia
  · simpa using hroot4
  · intro dd hdd
    rcases List.mem_cons.mp hdd with rfl | hdd
    · exact Nat.zero_le _
    · rcases List.mem_cons.mp hdd with rfl | hdd
      · show (setArc top.nd.arcs d (c + j)).length ≤ k + 1
        rw [es, List.length_append]
        by_cases h0 : j = 0
        · have := (htop0 h0).1
          simp only [List.length_cons, List.length_nil]; lia
        · rw [(htop1 (by lia)).1]; simp
      · exact hsm4 dd (.tail _ hdd)
  · have hin : ∃ o, (y, o) ∈ l₅ := by
      rcases List.mem_cons.mp hy with rfl | hy
      · exact y1_1 _ hit5
      · rcases List.mem_cons.mp hy with rfl | hy
        · exact y1_1 _ hitm5
        · exact hexin y hy
    exact hall y (hex4 y hy) hin
/-- the automaton is built -/
structure DfaDone (w : World) (l : Led) (G : Ads) (b : Bld) (kk : Nat) (av : List Addr) : Prop where
  dfa : DfaAt l G.x G.dx G.tr G.de G.fs G.ol
  de : ∃ o, (G.de, o) ∈ l ∧ o.IsDictOf (intKind prog w) []
  ol : ∃ o, (G.ol, o) ∈ l ∧ o.IsDictOf (intKind prog w) []
  fs : FsIs w l G.fs b.F 900
  tr : TransIs w l G.tr b.T 900 (G.fix ++ av)
  lo : (G.tr == sysModules) = false ∧ (G.de == sysModules) = false ∧ (G.ol == sysModules) = false ∧ (G.se == sysModules) = false
  good : b.aut.Good
  small : ∀ q, (b.T q).length ≤ kk
  nodup : G.fix.Nodup
  tg : b.Tg 900
theorem BAt.done {w : World} {l : Led} {G : Ads} {nds : List NdA} {b : Bld} {c kk : Nat} {ex av : List Addr} (B : BAt w l G nds b c ex) (hc : c ≤ 900) (hg : b.aut.Good) (hs : ∀ q, (b.T q).length ≤ kk) (ha : ∀ z ∈ av, z ∈ ex) (htg : b.Tg c) : DfaDone w l G b kk av := by
  have hcn := B.cnt
  (refine feed (B.fs) ?_; refine x3_1 ?_; intro o S n; refine x0_5 ?_; intro a1 a2 a3 a4 a5)
  exact ⟨B.dfa, B.de, B.ol, ⟨o, S, n, a1, a2, by lia, a4, a5⟩, B.tr.sub (fun q => rfl) (by lia) (fun z hz => by
    rcases List.mem_append.mp hz with hz | hz
    · exact List.mem_append_left _ (Ads.mem_fix hz)
    · exact List.mem_append_right _ (ha z hz)), B.lo, hg, hs, Ads.fix_nodup B.nodup, fun q a h => ⟨(htg q a h).1, Nat.lt_of_lt_of_le (htg q a h).2 hc⟩⟩
theorem Bld.acc_none {b : Bld} {q : Nat} (hT : b.T q = []) (hF : b.F q = false) (x : List Nat) : ¬ b.aut.Acc q x := by
  cases x with
  | nil => intro h; rw [show b.aut.Acc q [] = (b.F q = true) from rfl, hF] at h; cases h
  | cons c u =>
    (refine x1_1 ?_; intro q'; refine x0_2 ?_; intro h _)
    have h' : (c, q') ∈ b.T q := h
    rw [hT] at h'; cases h'
end Sdf2
section Sdf
local macro_rules | `(tactic| walk_at $s:str) => do
  let k := Lean.Syntax.mkStrLit ("Sdf:" ++ s.getString)
  `(tactic| k_extra $k)
local macro_rules | `(tactic| walk_at "zz") => `(tactic| skip)
example : True := by
  (k_with "Sdf:m_enterS" => k_dflt (refine' code_defG (by k_asm) (by k_asm) (by k_asm) (by k_asm) (by k_asm) (by k_asm) (by k_asm) (by k_asm) (by first | assumption | exact KtsTurn.refl) (by assumption) (by assumption) (by assumption) (by k_is) (by k_is) (by k_room) (by first | exact BindsTo.of_eq rfl | exact binds_K (by k_in) rfl (by k_is) rfl rfl rfl) (by exact locs rfl) ?_ (by exact rfl) (by exact rfl) (by exact rfl) (by decide)))
  (k_with "Sdf:exec While" => refine stop_of ?_)
  (k_with "Sdf:exec For" => refine stop_of ?_)
  (k_with "Sdf:call ref" => k_here; (with_reducible show wpAny _ _ (call (Value.ref 311) _) _ _ _); k_dflt (refine' dfa_new_spec (by walk_at "m_cx") (by k_asm) (by k_asm) (by walk_at "m_hh") ?_); intro _ _ _ _ _ _ _ _ _ _ _ _; (try dsimp only))
  (k_with "Sdf:call ref" => k_here; (with_reducible show wpAny _ _ (call (Value.ref 410) _) _ _ _); k_dflt (refine' count_new_spec (by walk_at "m_cx") (by k_asm) (by k_asm) (by walk_at "m_hh") ?_); intro _ _ _ _ _ _ _ _; (try dsimp only))
  (k_with "Sdf:call ref" => k_here; (with_reducible show wpAny _ _ (call (Value.ref 351) _) _ _ _); k_dflt (refine' node_new_spec (by walk_at "m_cx") (by k_asm) (by k_asm) (by walk_at "m_hh") ?_); intro _ _ _ _ _ _ _ _ hNewzz; (try dsimp only); (have hNewKzz := hNewzz.keep); (refine feed (hNewzz.at_) ?_); (refine x0_2 ?_); intro _; (refine x7_1 ?_); intro _ _ _ _ _ _ _ _)
  trivial
theorem slice_drop {x : Str} {p : Nat} (h : p ≤ x.cps.toList.length) : (Txt.slice x (some (p : Int)) none).cps.toList = x.cps.toList.drop p := by
  have e : Txt.slice x (some (p : Int)) none = _ := StrLaws.sliceText_from (x := x) (i := (p : Int)) ⟨by lia, by lia⟩
  rw [e]
  have e2 : ((x.cps.toList.length : Int) - (p : Int)).toNat = x.cps.toList.length - p := by lia
  show List.take _ (List.drop ((p : Int).toNat) x.cps.toList) = _
  rw [Int.toNat_natCast]
  exact List.take_of_length_le (by simp only [List.length_drop]; lia)
noncomputable def SdJ (w : World) (nw : Led) (G : Ads) (N : Nat) (ts : List (List Nat)) (ex : List Addr) (sl it cx cdx : Addr) (n : Nat) (st : Str × Tok) (l : Led) : Prop :=
  ∃ k nds b c cs oi, n = ts.length - k ∧ k ≤ ts.length ∧ (it, oi) ∈ l ∧ ListIt oi sl k ∧ BAt w l G nds b c ex ∧ CountAt l cx cdx (c : Nat) ∧ PInv b N c (nds.map (·.nd)) cs (fun x => x ∈ ts.take k) ∧ cs.reverse = st.1.cps.toList ∧
    (k = 0 → st.1.cps.toList = []) ∧ (0 < k → ts[k - 1]? = some st.1.cps.toList) ∧ (nds.map (·.nd.n)).getLast? = some 0 ∧ (∀ d ∈ nds, d.nd.arcs.length ≤ k) ∧ (∀ q, (b.T q).length ≤ k) ∧ c ≤ 1 + 12 * k ∧ (∀ p ∈ nw, p ∈ l) ∧ (∀ z ∈ it :: ex, z ∉ G.all nds)
theorem item_ch {x : Str} {i : Nat} (h : i < x.cps.toList.length) : Txt.item x (i : Int) = ch x.cps.toList[i] := by
  have := item_meets (x := x) (i := (i : Int)) (n := x.cps.toList[i]) (by lia) (by simp)
  rw [this]; rfl
example : True := by
  (k_with "Sdf:call builtin:next" => k_here; (with_reducible show wpAny _ _ (call (Value.builtin "next") [Value.ref _]) _ _ _); k_dflt (refine' count_next_spec (by walk_at "m_cx") (by k_asm) (by k_asm) (by walk_at "m_hh") ⟨_, _, _, by k_mem, by k_mem⟩ ?_); intro _ _ _ _ _ _ _ _; (try dsimp only))
  (k_with "Sdf:subscriptTail" => k_here; (with_reducible show wpAny _ _ (subscriptTail _ _ (Value.ref _) (Value.int _ _)) _ _ _); k_dflt (refine' sub_last_M (by k_asm) (by k_mem) (by with_reducible assumption) ?_))
  (k_with "Sdf:setItem ref str" => k_here; (with_reducible show wpAny _ _ (setItem (Value.ref _) (Value.str _ _) _) _ _ _); k_dflt (refine' setItem_M (knd := PySem.strKind prog _) (by k_asm) (by k_asm) (by k_mem) (by with_reducible assumption) (strKind_is _ _ _ _) (by with_reducible assumption) ?_); intro _ _ _ _ _; (try dsimp only))
  (k_with "Sdf:getMethod ref" => k_here; (with_reducible show wpAny _ _ (getMethod (Value.ref _) (Str.ofString "append") _) _ _ _); k_dflt (refine' kl_method (by k_asm) (by k_mem) PySem.F.slot_list_append PySem.F.type_list_append ?_))
  (k_with "Sdf:call builtin:list.append" => k_here; (with_reducible show wpAny _ _ (call (Value.builtin "list.append") [Value.ref _, _]) _ _ _); k_dflt (refine' append_M (by k_asm) (by k_asm) (by k_mem) (by with_reducible assumption) ?_); intro _ _ _; (try dsimp only))
  (k_with "Sdf:call builtin:len" => k_here; (with_reducible show wpAny _ _ (call (Value.builtin "len") [Value.ref _]) _ _ _); k_dflt (refine' len_list_M (by k_asm) (by k_mem) (by with_reducible assumption) ?_); intro _ _; (try dsimp only))
  (k_with "Sdf:pyIter str" => refine stop_of ?_)
  (k_with "Sdf:compareOp LtE str str" => k_here; refine stop_of ?_)
  (k_with "Sdf:subscriptTail" => k_here; (with_reducible show wpAny _ _ (subscriptTail _ _ (Value.str _ _) (Value.int _ _)) _ _ _); refine stop_of ?_)
  (k_with "Sdf:call ref" => k_here; (with_reducible show wpAny _ _ (call (Value.ref 429) _) _ _ _); refine stop_of ?_)
  trivial
theorem sdfa_spec : ∀ {w : World} {A A₀ : Around} {base : Heap} {outer : List Env} {s : Shared} {h₀ : Heap} {L : Addr} {m : Str → Option Value} {nw : Led} (C : CxG w A A₀ base outer h₀ L 6) (F : Fr h₀ L s.heap m) (N : News h₀ L s.heap nw)
    (hh : A.handled = none) {R : Result → Shared → Prop} {sl : Addr} {vs : List Value} {c₀ NN : Nat} {ts : List (List Nat)} (hsl : (sl, listOf vs.toArray c₀) ∈ nw) (hvl : vs.length = ts.length) (hvs : ∀ (i : Nat) (v : Value), vs[i]? = some v → ∃ (x : Str) (t : Tok), v = Value.str x t ∧ ts[i]? = some x.cps.toList)
    (hts : ts.Pairwise (· < ·)) (htn : ∀ t ∈ ts, t.length = NN ∧ ∀ c ∈ t, c < 128) (hN0 : 0 < NN) (hN1 : NN ≤ 11) (hk : ts.length ≤ 40)
    (_h : ∀ h₀' h' tk' G nw' b, TurnS A₀ base outer h₀ h₀' → Fr h₀' L h' m → News h₀' L h' nw' → (∀ p ∈ nw, p ∈ nw' ∧ p.1 ∉ G.fix) → DfaDone w nw' G b 40 (nw.map (·.1)) → (∀ x, b.aut.Acc 0 x ↔ x ∈ ts) → R (.ok (.ret (.ref G.x))) ⟨h', s.gens, s.drawn, tk', s.os⟩),
    codeAny (model prog w) A (.call (.ref 422) ⟨[.ref sl], []⟩) R s := by
  intro w A A₀ base outer s h₀ L m nw
  refine CxG.el ?_
  intro XB lo mean mg mb TB B D env0 hA hef hck hdep hun F N hh R sl vs c₀ NN ts hsl hvl hvs hts htn hN0 hN1 hk h
  have X₀ := XB.keeps B.stays
  have T := TB.keeps B.stays
  refine fillIt ?_
  k_fill
  intro _
  w_strict (
    walk_at "m_enterS"
    intro g' L' h' FG' F' N' B' X' T' D'
    (try dsimp only [b19, b19s])
    k_fold
    refine fr_open [(Str.ofString "strings", .ref sl)] F' (by walk_at "m_names") ?_
    clear F'
    intro m0 F'
    dsimp only [over] at F'
    k_steps
    rename NewDfa _ _ _ _ _ _ _ _ _ => H1
    rename NewCount _ _ _ _ => H2
    rename NewNode _ _ _ _ _ _ _ => H3
    rename (News g' L' _ _) => N₁
    rename (Obj.IsDictOf (PySem.strKind _ _) _ []) => i4
    rename (_ == sysModules) = false => lo4
    (refine feed (sdfa_init2 H1 H2 i4 lo4 (by assumption) H3 (by assumption)) ?_; refine x5_1 ?_; intro G d0 cx cdx led; refine x0_10 ?_; intro eq1 eq2 eq3 eq4 eq5 eq6 Bt hct hnw0 hex)
    rw [eq5] at N₁
    subst eq1 eq2 eq3 eq4
    have hnwled : ∀ p ∈ nw, p ∈ led := fun p hp => (hnw0 p hp).1
    have hnw := hnwled
    have hnecx : ∀ p ∈ nw, p.1 ≠ cx := fun p hp => (hnw0 p hp).2.1
    clear H1 H2 H3 eq5
    refine Stop.out ?_
    refine wpAny_For ?_
    k_steps
    refine Stop.out ?_
    refine list_iter (env := envOf (Str.ofString "strings_dfa") s19 L' 422 (.ref 421)) (by assumption) (by assumption) (hnw _ hsl) ?_
    intro h₁ it oi F₁ N₁ hal hIt
    refine For_S (α := Str × Tok) (fun st => [(Str.ofString "last", .str st.1 st.2)]) (fun y => y ∈ [Str.ofString "string", "i", "prefixlen", "label", "node"]) (SdJ w nw G NN ts (cdx :: cx :: nw.map (·.1)) sl it cx cdx) (⟨#[]⟩, ?tok) ts.length ⟨.refl, B', D'⟩ F₁ N₁ ?hm ?hJ ?turn
    case hm => walk_at "m_names"
    case hJ =>
      refine y6_1 0 ([d0]) Bld.empty 1 ([]) oi (ya16 rfl (Nat.zero_le _) (.head _) hIt ?_ ?_ ?_ rfl (fun _ => rfl) (fun h => absurd h (Nat.lt_irrefl _)) (by simp [eq6]) ?_ (fun q => Nat.le_refl 0) (by lia) (fun p hp => .tail _ (hnw p hp)) ?_)
      · exact Bt.mono fun p hp _ => .tail _ hp
      · (revert hct; refine x3_1 ?_; intro cb c1 c2; refine x0_2 ?_; intro c3 c4)
        exact y3_1 cb c1 c2 (ya2 (.tail _ c3) (.tail _ c4))
      · exact (show PInv Bld.empty NN 1 [d0.nd] [] _ from (by rw [eq6]; exact PInv.start NN)).congr (fun x => by simp)
      · intro d hd
        have : d = d0 := by simpa using hd
        subst this
        rw [eq6]; exact Nat.le_refl 0
      · intro z hz
        rcases List.mem_cons.mp hz with rfl | hz
        · intro hm
          (refine feed (Bt.there _ hm) ?_; refine x1_1 ?_; intro o ho)
          exact allLt_ne hal _ ho rfl
        · exact (hex z hz).2
    case turn =>
      intro KW hKW
      (intro n; refine xp ?_; intro lst tl; intro g₁ m₁ nw₁ h₁ tk₁; refine TurnS.el ?_; intro tT tB tD; intro F₁ N₁ hn₁ hm₁; refine x6_1 ?_; intro k nds b c cs oi; refine x0_16 ?_; intro zz9; subst zz9; intro hkl hit hIt Bt hct P hcs hk0 hk1 hroot hsm1 hsm2 hc hnw hex)
      have XX := XB.keeps tB.stays
      have TT := TB.keeps tB.stays
      have hN : Stop (News g₁ L' h₁ nw₁) := Stop.out N₁
      dsimp only at hcs hk0 hk1
      refine list_next hh rfl rfl F₁ N₁ hit hIt (hnw _ hsl) ?_ ?_
      · intro v h₂ tk₂ oi₂ hv F₂ N₂ hIt₂
        have hItS : Stop (ListIt oi₂ sl (k + 1)) := Stop.out hIt₂
        (refine feed (hvs k v hv) ?_; refine x2_1 ?_; intro str ts₁; refine x0_2 ?_; intro zz9; subst zz9; intro hstr)
        refine frame_at (nms := [(Str.ofString "string", .str str ts₁), (Str.ofString "last", .str lst tl)]) (nmo := [(Str.ofString "dfa", .ref G.x), (Str.ofString "nodes", .ref G.nl), (Str.ofString "seen", .ref G.se), (Str.ofString "c", .ref cx)]) (ls := [Str.ofString "i", "prefixlen", "label", "node"]) [Str.ofString "string", "last"] [Str.ofString "dfa", "nodes", "seen", "c"] F₂ (by
          intro p hp
          simp only [List.mem_cons, List.not_mem_nil, or_false] at hp
          rcases hp with rfl | rfl
          · rfl
          · exact (if_neg (show ¬ Str.ofString "last" = Str.ofString "string" by decide)).trans (hn₁ _ (.head _))) (fun y hy hyn => by
            have h1 := hyn _ (.head _)
            have h2 := hyn _ (.tail _ (.head _))
            refine (if_neg h1).trans (hm₁ y ?_ ?_)
            · intro hm
              rcases List.mem_cons.mp hm with hm | hm
              · exact h1 hm
              · exact hy hm
            · intro p hp
              have : p = _ := List.mem_singleton.mp hp
              subst this
              exact h2) (by walk_at "m_names") rfl rfl (by decide) ?_
        clear F₂
        intro mA F₂ hmA
        dsimp only [over] at F₂
        have hslen : str.cps.toList.length = NN := (htn _ (List.mem_of_getElem? hstr)).1
        have hlt : lst.cps.toList < str.cps.toList := by
          by_cases h0 : k = 0
          · rw [hk0 h0]
            cases he : str.cps.toList with
            | nil => rw [he] at hslen; simp at hslen; lia
            | cons a l => exact List.nil_lt_cons a l
          · have h1 := hk1 (by lia)
            obtain ⟨b1, b2⟩ := List.getElem?_eq_some_iff.mp h1
            obtain ⟨b3, b4⟩ := List.getElem?_eq_some_iff.mp hstr
            have := List.pairwise_iff_getElem.mp hts (k - 1) k b1 b3 (by lia)
            rw [b2, b4] at this
            exact this
        k_steps
        refine Stop.out ?_
        refine PySem.P.le_str ?_
        rw [decide_eq_true hlt]
        have hsl1 : str.length ≤ 64 := by
          show str.cps.size ≤ 64
          rw [← Array.length_toList]; lia
        have hll0 : lst.cps.toList.length ≤ NN := by
          by_cases h0 : k = 0
          · rw [hk0 h0]; exact Nat.zero_le _
          · exact Nat.le_of_eq (htn _ (List.mem_of_getElem? (hk1 (by lia)))).1
        have hll1 : lst.length ≤ 64 := by
          show lst.cps.size ≤ 64
          rw [← Array.length_toList]; lia
        have hlen1 : (str.length : Int) = NN := by
          have : str.length = str.cps.toList.length := by simp [Str.length]
          lia
        have hlen2 : (lst.length : Int) = lst.cps.toList.length := by simp [Str.length]
        k_steps
        rotate_left
        · exfalso; lia
        refine Stop.out ?_
        rename (News g₁ _ _ (put it _ _)) => N₃
        rename (Fr g₁ _ _ _) => F₃
        refine While_X (α := Nat × Tok) (fun st => [(Str.ofString "i", .int st.1 st.2)]) (fun y => y ∈ ([] : List Str)) (fun n st l => n = NN - st.1 ∧ st.1 ≤ NN ∧ st.1 ≤ lst.cps.toList.length ∧ lst.cps.toList.take st.1 = str.cps.toList.take st.1 ∧ l = put it oi₂ nw₁)
          (fun st l => st.1 < NN ∧ st.1 ≤ lst.cps.toList.length ∧ lst.cps.toList.take st.1 = str.cps.toList.take st.1 ∧ (∀ x y, lst.cps.toList[st.1]? = some x → str.cps.toList[st.1]? = some y → x < y) ∧ l = put it oi₂ nw₁) (0, ?tok2) NN ⟨.refl, tB, tD⟩ F₃ N₃ ?hm ?hJ ?turn ?after
        case hm => walk_at "m_names"
        case hJ => exact ⟨rfl, Nat.zero_le _, Nat.zero_le _, rfl, rfl⟩
        case turn =>
          intro KW2 KX2 hKW2 hKX2
          (intro n; refine xp ?_; intro i ti; intro g₂ m₂ nw₂ h₃ tk₃; refine TurnS.el ?_; intro tT2 tB2 tD2; intro F₄ N₄ hn₂ hm₂; refine x0_5 ?_; intro zz9; subst zz9; intro i1 i2 i3; intro zz9; subst zz9)
          have XX2 := XB.keeps tB2.stays
          have TT2 := TB.keeps tB2.stays
          refine frame_at (nmo := [(Str.ofString "string", .str str ts₁), (Str.ofString "last", .str lst tl)]) [Str.ofString "i"] [Str.ofString "string", "last"] F₄ hn₂ hm₂ (by walk_at "m_names") rfl rfl (by decide) ?_
          clear F₄
          intro mB F₄ hmB
          dsimp only [over] at F₄ i1 i2 i3
          k_steps
          · rename ((Txt.item lst _ == Txt.item str _) = true) => hq
            rename ((_ : Int) < (lst.length : Int)) => hi
            have hi1 : i < lst.cps.toList.length := by lia
            have hi2 : i < str.cps.toList.length := by lia
            have e1 := item_ch (x := lst) hi1
            have e2 := item_ch (x := str) hi2
            rw [e1, e2] at hq
            have e3 := ch_inj (eq_of_beq hq)
            refine hKW2 _ _ _ ?_
            refine WPost.intro (i + 1, ?tk4) (NN - (i + 1)) ⟨by assumption, by assumption, by assumption⟩ (by assumption) (by assumption) ?hnm ?hr (by lia) ⟨rfl, by show i + 1 ≤ NN; lia, by show i + 1 ≤ _; lia, ?htk, rfl⟩
            case hnm => walk_at "m_names"
            case hr =>
              intro y _ hy
              have h1 := hy _ (.head _)
              exact (if_neg h1).trans (hmB y (fun hm => nomatch hm) fun hm => h1 (List.mem_singleton.mp hm))
            case htk =>
              show lst.cps.toList.take (i + 1) = str.cps.toList.take (i + 1)
              rw [List.take_add_one, List.take_add_one, i3, List.getElem?_eq_getElem hi1, List.getElem?_eq_getElem hi2, e3]
          · rename ((Txt.item lst _ == Txt.item str _) = false) => hq
            rename ((_ : Int) < (lst.length : Int)) => hi
            have hi1 : i < lst.cps.toList.length := by lia
            have hi2 : i < str.cps.toList.length := by lia
            have e1 := item_ch (x := lst) hi1
            have e2 := item_ch (x := str) hi2
            rw [e1, e2] at hq
            refine hKX2 _ _ ?_
            refine WX.intro (i, ti) ⟨by assumption, by assumption, by assumption⟩ (by assumption) (by assumption) ?hnm2 ?hr2 ⟨by show i < NN; lia, i2, i3, fun x y hx hy => ?hxy, rfl⟩
            case hnm2 => walk_at "m_names"
            case hr2 =>
              intro y _ hy
              have h1 := hy _ (.head _)
              exact hmB y (fun hm => nomatch hm) fun hm => h1 (List.mem_singleton.mp hm)
            case hxy =>
              refine lt_at hlt i3 hx hy fun e => ?_
              obtain ⟨_, ex⟩ := List.getElem?_eq_some_iff.mp hx
              obtain ⟨_, ey⟩ := List.getElem?_eq_some_iff.mp hy
              have : (ch lst.cps.toList[i] == ch str.cps.toList[i]) = true := by
                have e5 : lst.cps.toList[i] = str.cps.toList[i] := ex.trans (e.trans ey.symm)
                rw [e5]; exact beq_self_eq_true _
              rw [hq] at this
              cases this
          · rename (¬ (_ : Int) < (lst.length : Int)) => hi
            have hi1 : lst.cps.toList.length ≤ i := by lia
            refine hKX2 _ _ ?_
            refine WX.intro (i, ti) ⟨by assumption, by assumption, by assumption⟩ (by assumption) (by assumption) ?hnm3 ?hr3 ⟨?hlt3, i2, i3, fun x y hx hy => ?hxy3, rfl⟩
            case hnm3 => walk_at "m_names"
            case hr3 =>
              intro y _ hy
              have h1 := hy _ (.head _)
              exact hmB y (fun hm => nomatch hm) fun hm => h1 (List.mem_singleton.mp hm)
            case hlt3 =>
              show i < NN
              by_cases h6 : i < NN
              · exact h6
              · exfalso
                rw [List.take_of_length_le hi1, List.take_of_length_le (by lia)] at i3
                rw [i3] at hlt
                exact lt_irr _ hlt
            case hxy3 =>
              have := (List.getElem?_eq_some_iff.mp hx).1
              simp only at this
              lia
        case after =>
          (intro g₂ h₃ tk₃ m₂ nw₂; refine xp ?_; intro p tp; refine TurnS.el ?_; intro tT2 tB2 tD2; intro F₄ N₄ hn₂ hm₂; refine x0_5 ?_; intro j1 j2 j3 j4; intro zz9; subst zz9)
          have XX2 := XB.keeps tB2.stays
          have TT2 := TB.keeps tB2.stays
          refine frame_at (nmo := [(Str.ofString "string", .str str ts₁), (Str.ofString "last", .str lst tl), (Str.ofString "dfa", .ref G.x), (Str.ofString "nodes", .ref G.nl), (Str.ofString "seen", .ref G.se), (Str.ofString "c", .ref cx)]) [Str.ofString "i"] [Str.ofString "string", "last", "dfa", "nodes", "seen", "c"] F₄ hn₂ hm₂ (by walk_at "m_names") rfl rfl (by decide) ?_
          clear F₄
          intro mC F₄ hmC
          dsimp only [over] at F₄ j1 j2 j3 j4
          k_steps
          refine Stop.out ?_
          rename (News g₂ _ _ (put it _ _)) => N₅
          rename (Fr g₂ _ _ _) => F₅
          have hlen := P.pok.length
          have hlcs : cs.length = lst.cps.toList.length := by rw [← hcs]; simp
          rw [show ((p : Int) + 1) = ((p + 1 : Nat) : Int) by lia]
          have hBt : BAt w (put it oi₂ nw₁) G nds b c (cdx :: cx :: nw.map (·.1)) := Bt.mono1 (stop_of hN) hit (by rw [hIt.1]; simp) (by rw [hIt.1]; simp) (hex it (.head _)) fun p hp hne => mem_put_of hp hne
          (revert hct; refine x3_1 ?_; intro bc ct1 ct2; refine x0_2 ?_; intro hct1 hct2)
          have hcxit : cx ≠ it := ne_of_cls (stop_of hN) hct1 hit (by rw [hIt.1]; simp)
          have hcdxit : cdx ≠ it := ne_of_cls (stop_of hN) hct2 hit (by rw [hIt.1]; simp)
          have hnwit : ∀ p ∈ nw, p.1 ≠ it := fun p hp => allLt_ne hal _ (hnwled p hp)
          refine wpAny_call ?_
          have hC : CxS w (A.deeper (envOf (Str.ofString "strings_dfa") s19 L' 422 (.ref 421))) A base (env0 :: outer) g₂ L' 5 := ⟨XB, ⟨_, _, _, _, TB⟩, tB2, tD2, ⟨_, _, _, _, Around.frames_deeper hA, rfl⟩, (by show A.depth + 1 + 5 ≤ 360; lia), (by show A.units + 3 + 6 * 5 ≤ 400; lia)⟩
          refine suffix_spec (last := lst) (dn := p + 1) (kk := k) (n₀ := nds.length) (Lang := fun x => x ∈ ts.take k) (ex := cdx :: cx :: nw.map (·.1)) (al := G.all nds) (c := c) (NN := NN) hC F₅ N₅ hh ?jj ?ex (by lia) (by lia) (by lia) (fun h => absurd h (Nat.succ_ne_zero _)) ?fin
          case jj =>
            refine .inl ⟨nds, b, cs, rfl, ?_, hBt, fun z h => h, P, ?_, by lia, hroot, hsm1, hsm2, fun h => ?_⟩
            · simp only [List.length_map] at hlen; lia
            · rw [hcs, hlcs, List.take_length]
            · simp only [List.length_map] at hlen; lia
          case ex =>
            intro z hz
            refine ⟨?_, hex z (.tail _ hz)⟩
            rcases List.mem_cons.mp hz with rfl | hz
            · exact y1_1 _ (mem_put_of hct2 hcdxit)
            · rcases List.mem_cons.mp hz with rfl | hz
              · exact y1_1 _ (mem_put_of hct1 hcxit)
              · (refine feed (List.mem_map.mp hz) ?_; refine x1_1 ?_; intro q; refine x0_2 ?_; intro hq; intro zz9; subst zz9)
                exact y1_1 q.2 (mem_put_of (hnw q hq) (hnwit q hq))
          case fin =>
            rintro g₃ h₄ tk₄ nw₃ n' ⟨sT, sB, sD⟩ F₆ N₆ hn' J₆ hkeep
            dsimp only
            k_steps
            have XX3 := XB.keeps sB.stays
            have TT3 := TB.keeps sB.stays
            have hN3 : Stop (News g₃ L' h₄ nw₃) := Stop.out N₆
            rcases J₆ with J₆ | J₆
            rotate_left
            · exact absurd J₆.2.1 (Nat.succ_ne_zero _)
            (revert J₆; refine x3_1 ?_; intro nds₂ b₂ cs₂; refine x0_11 ?_; intro zz9; subst zz9; intro hdn₂ Bt₂ hal₂ P₂ hcs₂ hcl₂ hroot₂ hsm1₂ hsm2₂ hlow₂)
            refine Stop.out ?_
            refine wpAny_For ?_
            k_steps
            refine Stop.out ?_
            rename (Fr g₃ _ _ _) => F₇
            rename (News g₃ _ _ _) => N₇
            have hds : (Txt.slice str (some (p : Int)) none).cps.toList = str.cps.toList.drop p := slice_drop (by lia)
            refine str_iter (t := _) (env := envOf (Str.ofString "strings_dfa") s19 L' 422 (.ref 421)) (Array.all_eq_true'.mpr ?hasc) F₇ N₇ ?_
            case hasc =>
              intro x hx
              have hx2 : x ∈ (Txt.slice str (some (p : Int)) none).cps.toList := by simpa using hx
              rw [hds] at hx2
              have := (htn _ (List.mem_of_getElem? hstr)).2 x (List.mem_of_mem_drop hx2)
              simpa using this
            intro h₅ it2 oi3 F₈ N₈ hal3 hIt3
            (refine feed (show ∃ tz, StrIt oi3 (Txt.slice str (some (p : Int)) none) tz 0 from ⟨_, hIt3⟩) ?_; refine x1_1 ?_; intro tz hIt3)
            have hl₂ : nds₂.length = p + 1 := by lia
            have hnw3 : ∀ q ∈ nw, q ∈ nw₃ := fun q hq => hkeep q (mem_put_of (hnw q hq) (hnwit q hq)) (hex q.1 (.tail _ (.tail _ (.tail _ (List.mem_map_of_mem hq))))) (.inl (.tail _ (.tail _ (List.mem_map_of_mem hq))))
            have hit3 : (it, oi₂) ∈ nw₃ := hkeep _ mem_put (hex it (.head _)) (.inr (by rw [hIt₂.1]; simp))
            have hnwit2 : ∀ q ∈ nw, q.1 ≠ it2 := fun q hq => allLt_ne hal3 q (hnw3 q hq)
            have hitit2 : it ≠ it2 := allLt_ne hal3 _ hit3
            refine For_S (α := Unit) (fun _ => []) (fun y => y ∈ [Str.ofString "label", "node"]) (SdI w nw G NN ts (cdx :: cx :: nw.map (·.1)) cx cdx (Txt.slice str (some (p : Int)) none) tz it2 it oi₂ k p c b₂ str.cps.toList) () (NN - p) ⟨.refl, sB, sD⟩ F₈ N₈ (fun _ hp => nomatch hp) ?hJ3 ?turn3
            case hJ3 =>
              cases nds₂ with
              | nil => simp at hl₂
              | cons top rest =>
              have hlen₂ := P₂.pok.length
              simp only [List.length_map] at hlen₂
              have hcl₂' : cs₂.length = p := by lia
              refine ⟨0, top, rest, cs₂, oi3, rfl, by lia, .head _, hIt3, Bt₂.mono (fun q hq _ => .tail _ hq), ⟨bc, ct1, ct2, .tail _ (hkeep _ (mem_put_of hct1 hcxit) (hex cx (.tail _ (.tail _ (.head _)))) (.inl (.tail _ (.head _)))), .tail _ (hkeep _ (mem_put_of hct2 hcdxit) (hex cdx (.tail _ (.head _))) (.inl (.head _)))⟩, P₂.pre, ?_, by lia, hroot₂,
                fun d hd => Nat.le_succ_of_le (hsm1₂ d hd), fun _ => ⟨hsm1₂ top (.head _), fun a ha y hy => ?_⟩, fun h => absurd h (Nat.lt_irrefl _), fun q hq => .tail _ (hnw3 q hq), .tail _ hit3, fun z hz => ?_⟩
              · rw [hcs₂, hcl₂', Nat.add_zero, j3]
              · by_cases hp : p + 1 ≤ lst.cps.toList.length
                · (refine feed (hlow₂ (by lia) top rest rfl a ha) ?_; refine x1_1 ?_; intro d; refine x0_2 ?_; intro h1 h2)
                  rw [hl₂] at h1
                  exact Nat.lt_of_le_of_lt h2 (j4 d y h1 hy)
                · have hk00 : k = 0 := by
                    by_cases h0 : k = 0
                    · exact h0
                    · have := (htn _ (List.mem_of_getElem? (hk1 (by lia)))).1
                      lia
                  have := PInv.none_arcs (top := top.nd) (rest := rest.map (·.nd)) P₂ (fun x hx => by rw [hk00] at hx; simp at hx)
                  rw [this] at ha; cases ha
              · rcases List.mem_cons.mp hz with rfl | hz
                · intro hm
                  (refine feed (Bt₂.there _ hm) ?_; refine x1_1 ?_; intro o ho)
                  exact allLt_ne hal3 _ ho rfl
                · rcases List.mem_cons.mp hz with rfl | hz
                  · exact fun hm => hex _ (.head _) (hal₂ _ hm)
                  · exact fun hm => hex z (.tail _ hz) (hal₂ _ hm)
            case turn3 =>
              intro KW3 hKW3
              (intro n3 _ g₄ m₄ nw₄ h₆ tk₆; refine TurnS.el ?_; intro tT4 tB4 tD4; intro F₉ N₉; intro zz9; clear zz9; intro hm₄; refine x5_1 ?_; intro j top rest cs₄ oi4; refine x0_16 ?_; intro zz9; subst zz9; intro hj hit4 hIt4 Bt4; refine x3_1 ?_; intro bc ct1 ct2; refine x0_2 ?_; intro hct1 hct2; intro P4 hcs4 hl4 hroot4 hsm4 htop0 htop1 hnw4 hitm4 hex4)
              have XX4 := XB.keeps tB4.stays
              have TT4 := TB.keeps tB4.stays
              have hN4 : Stop (News g₄ L' h₆ nw₄) := Stop.out N₉
              refine str_next hh rfl rfl F₉ N₉ hit4 hIt4 ?_ ?_
              · intro d u h₇ tk₇ oi5 hd F₁₀ N₁₀ hIt5
                refine frame_at (nms := [(Str.ofString "label", .str (ch d) u)]) (nmo := [(Str.ofString "nodes", .ref G.nl), (Str.ofString "c", .ref cx)]) (ls := [Str.ofString "node"]) [Str.ofString "label"] [Str.ofString "nodes", "c"] F₁₀ (by
                  intro p hp
                  have : p = _ := List.mem_singleton.mp hp
                  subst this
                  rfl) (fun y hy hyn => by
                    have h1 := hyn _ (.head _)
                    refine (if_neg h1).trans (hm₄ y ?_ (fun _ hp => nomatch hp))
                    intro hm
                    rcases List.mem_cons.mp hm with hm | hm
                    · exact h1 hm
                    · exact hy hm) (by walk_at "m_names") rfl rfl (by decide) ?_
                clear F₁₀
                intro mD F₁₀ hmD
                dsimp only [over] at F₁₀
                (refine feed (led_set4 N₁₀) ?_; refine x1_1 ?_; intro l₅; refine x0_4 ?_; intro N₁₁ st5 hit5 hl5)
                clear N₁₀
                have Bt5 : BAt w l₅ G (top :: rest) b₂ (c + j) (cdx :: cx :: nw.map (·.1)) := Bt4.mono1 (stop_of hN4) hit4 (by rw [hIt4.1]; simp) (by rw [hIt4.1]; simp) (hex4 it2 (.head _)) st5
                have hcx2 : cx ≠ it2 := ne_of_cls (stop_of hN4) hct1 hit4 (by rw [hIt4.1]; simp)
                have hcdx2 : cdx ≠ it2 := ne_of_cls (stop_of hN4) hct2 hit4 (by rw [hIt4.1]; simp)
                have hct1' := st5 _ hct1 hcx2
                have hct2' := st5 _ hct2 hcdx2
                (refine feed (Bt5.nodes top (.head _)) ?_; rintro ⟨zq0, zq1, hlo⟩; revert zq0; refine x0_2 ?_; intro m1; refine x7_1 ?_; intro g1 g2 g3 t1 t2 t3 tn m2; revert zq1; refine x2_1 ?_; intro oar kv; refine x0_3 ?_; intro ha1 ha2 ha3)
                have hcxall : cx ∉ G.all (top :: rest) := hex4 cx (.tail _ (.tail _ (.tail _ (.head _))))
                have hq1 : top.x ≠ cx := fun e => hcxall (e ▸ Ads.mem_foot (.head _) (by first | with_reducible exact NdA.f1 _ | with_reducible exact NdA.f2 _ | with_reducible exact NdA.f3 _ | simp [NdA.foot]))
                have hq2 : top.dx ≠ cx := fun e => hcxall (e ▸ Ads.mem_foot (.head _) (by first | with_reducible exact NdA.f1 _ | with_reducible exact NdA.f2 _ | with_reducible exact NdA.f3 _ | simp [NdA.foot]))
                have hq3 : top.ar ≠ cx := fun e => hcxall (e ▸ Ads.mem_foot (.head _) (by first | with_reducible exact NdA.f1 _ | with_reducible exact NdA.f2 _ | with_reducible exact NdA.f3 _ | simp [NdA.foot]))
                have hq4 : G.nl ≠ cx := fun e => hcxall (e ▸ Ads.mem_fix (by first | with_reducible exact Ads.f1 _ | with_reducible exact Ads.f2 _ | with_reducible exact Ads.f3 _ | with_reducible exact Ads.f4 _ | with_reducible exact Ads.f5 _ | with_reducible exact Ads.f6 _ | with_reducible exact Ads.f7 _ | with_reducible exact Ads.f8 _ | simp [Ads.fix]))
                have hq5 : G.nl ≠ top.ar := fun e => Ads.off Bt5.nodup (.head _) (y := G.nl) (by first | with_reducible exact Ads.f1 _ | with_reducible exact Ads.f2 _ | with_reducible exact Ads.f3 _ | with_reducible exact Ads.f4 _ | with_reducible exact Ads.f5 _ | with_reducible exact Ads.f6 _ | with_reducible exact Ads.f7 _ | with_reducible exact Ads.f8 _ | simp [Ads.fix]) (by first | with_reducible exact NdA.f1 _ | with_reducible exact NdA.f2 _ | with_reducible exact NdA.f3 _ | simp [NdA.foot]) e.symm
                have hq6 : top.x ≠ top.ar := by
                  have := Ads.foot_nodup Bt5.nodup
                  replace this := NdA.foot_ne this
                  exact this.1.2
                have hq7 : top.dx ≠ top.ar := by
                  have := Ads.foot_nodup Bt5.nodup
                  replace this := NdA.foot_ne this
                  exact this.2.1
                (refine feed (Bt5.nl) ?_; refine x1_1 ?_; intro kk hnl)
                rw [List.reverse_cons, List.map_append] at hnl
                simp only [List.map_cons, List.map_nil] at hnl
                have hz4 : ((rest.reverse.map fun d => Value.ref d.x) ++ [Value.ref top.x]).length < 1000 := by
                  simp only [List.length_append, List.length_map, List.length_reverse, List.length_cons, List.length_nil] at hl4 ⊢
                  lia
                have hz5 : ((rest.reverse.map fun d => Value.ref d.x) ++ [Value.ref top.x]).toArray.size ≤ sizeLine := by
                  have := sizeLine_eq
                  rw [List.size_toArray]; lia
                have hz6 : kv.length ≤ sizeLine := by
                  have := sizeLine_eq
                  have := hsm4 top (.head _)
                  rw [ha3.length]; lia
                have hN5 : Stop (News g₄ L' h₇ l₅) := Stop.out N₁₁
                k_steps
                rename Keep [cx] l₅ _ => kB
                rename CountAt _ cx cdx _ => hcn
                rename NewNode _ _ _ _ _ _ _ => hNew
                rename Obj.IsDictOf _ _ (stored kv _ _) => hdk
                have hdj : str.cps.toList[p + j]? = some d := by
                  have h1 : (Txt.slice str (some (p : Int)) none).cps.toList[j]? = some d := by simpa using hd
                  rw [hds, List.getElem?_drop] at h1
                  exact h1
                have hpj := (List.getElem?_eq_some_iff.mp hdj).1
                rw [hslen] at hpj
                have hexin : ∀ z ∈ cdx :: cx :: nw.map (·.1), ∃ o, (z, o) ∈ l₅ := by
                  intro z hz
                  rcases List.mem_cons.mp hz with rfl | hz
                  · exact y1_1 _ hct2'
                  · rcases List.mem_cons.mp hz with rfl | hz
                    · exact y1_1 _ hct1'
                    · (refine feed (List.mem_map.mp hz) ?_; refine x1_1 ?_; intro q; refine x0_2 ?_; intro hq; intro zz9; subst zz9)
                      exact y1_1 q.2 (st5 q (hnw4 q hq) (hnwit2 q hq))
                refine hKW3 _ _ _ ?_
                refine WPost.intro () (NN - p - (j + 1)) ⟨tT4, tB4, tD4⟩ (by assumption) (by assumption) (fun _ hp => nomatch hp) (fun y hy _ => ?_) (by lia) (SdI.step (stop_of hN5) hdj hpj hslen hit5 hIt5 Bt5 hct1' (by simp) (by simp) hct2' P4 hcs4 hl4 hroot4 hsm4 htop0 htop1 (fun q hq => st5 q (hnw4 q hq) (hnwit2 q hq)) (st5 _ hitm4 hitit2) hex4 hexin (.tail _ (.head _)) (.head _) (fun q hq => .tail _ (.tail _ (List.mem_map_of_mem hq))) hnecx (Ne.symm hcxit) (Ne.symm hcx2) kB hcn hNew hdk ha1 ha3)
                simp only [List.mem_cons, List.not_mem_nil, or_false, not_or] at hy
                exact (if_neg hy.2).trans (hmD y (fun hm => hy.2 (List.mem_singleton.mp hm)) fun hm => hy.1 (List.mem_singleton.mp hm))
              · intro h₇ hnone F₁₀ N₁₀
                refine frame_at (nms := []) (nmo := [(Str.ofString "string", .str str ts₁), (Str.ofString "nodes", .ref G.nl)]) (ls := [Str.ofString "label", "node"]) [] [Str.ofString "string", "nodes"] F₁₀ (fun _ hp => nomatch hp) hm₄ (by walk_at "m_names") rfl rfl (by decide) ?_
                clear F₁₀
                intro mE F₁₀ hmE
                dsimp only [over] at F₁₀
                have hjz : NN - p ≤ j := by
                  have h1 : (Txt.slice str (some (p : Int)) none).cps.toList[j]? = none := by simpa using hnone
                  rw [hds, List.getElem?_drop, List.getElem?_eq_none_iff, hslen] at h1
                  lia
                have hpj : p + j = NN := by lia
                have hj0 : 0 < j := by lia
                (refine feed (htop1 hj0) ?_; refine x0_2 ?_; intro e1 e2)
                have hNd : Stop (News g₄ L' h₇ (del it2 nw₄)) := Stop.out N₁₀
                have Bt6 : BAt w (del it2 nw₄) G (top :: rest) b₂ (c + j) (cdx :: cx :: nw.map (·.1)) := Bt4.mono1 (stop_of hN4) hit4 (by rw [hIt4.1]; simp) (by rw [hIt4.1]; simp) (hex4 it2 (.head _)) (fun q hq hne => mem_del_of hq hne)
                have hcx2 : cx ≠ it2 := ne_of_cls (stop_of hN4) hct1 hit4 (by rw [hIt4.1]; simp)
                have hcdx2 : cdx ≠ it2 := ne_of_cls (stop_of hN4) hct2 hit4 (by rw [hIt4.1]; simp)
                (refine feed (Bt6.nodes top (.head _)) ?_; rintro ⟨zq0, _, hlo⟩; revert zq0; refine x0_2 ?_; intro m1; refine x7_1 ?_; intro g1 g2 g3 t1 t2 t3 tn m2)
                have hq6 : top.x ≠ top.dx := by
                  have := Ads.foot_nodup Bt6.nodup
                  replace this := NdA.foot_ne this
                  exact this.1.1
                have hq7 : G.nl ≠ top.dx := fun e => Ads.off Bt6.nodup (.head _) (y := G.nl) (by first | with_reducible exact Ads.f1 _ | with_reducible exact Ads.f2 _ | with_reducible exact Ads.f3 _ | with_reducible exact Ads.f4 _ | with_reducible exact Ads.f5 _ | with_reducible exact Ads.f6 _ | with_reducible exact Ads.f7 _ | with_reducible exact Ads.f8 _ | simp [Ads.fix]) (by first | with_reducible exact NdA.f1 _ | with_reducible exact NdA.f2 _ | with_reducible exact NdA.f3 _ | simp [NdA.foot]) e.symm
                (refine feed (Bt6.nl) ?_; refine x1_1 ?_; intro kk hnl)
                rw [List.reverse_cons, List.map_append] at hnl
                simp only [List.map_cons, List.map_nil] at hnl
                have hz4 : ((rest.reverse.map fun d => Value.ref d.x) ++ [Value.ref top.x]).length < 1000 := by
                  simp only [List.length_append, List.length_map, List.length_reverse, List.length_cons, List.length_nil] at hl4 ⊢
                  lia
                (refine feed (focus N₁₀ m2) ?_; refine x1_1 ?_; intro r; refine x0_4 ?_; intro N₁₁ hr hin hout)
                have m1' := hin _ m1 hq6
                have hnl' := hin _ hnl hq7
                have hNr : Stop (∀ q ∈ del it2 nw₄, q.1 ≠ top.dx → q ∈ r) := Stop.out hin
                clear N₁₀ m1 m2 hnl hin hout
                refine wpAny_execs_nil ?_
                dsimp only
                k_steps
                have Bt7 := BAt.setfin (l' := (top.dx, dictOf [⟨g1, .str "n" t1, .int top.nd.n tn⟩, ⟨g2, .str "arcs" t2, .ref top.ar⟩, ⟨g3, .str "final" t3, .bool true⟩] 3) :: r) (stop_of hNd) Bt6 (fun q hq hne => List.mem_cons_of_mem _ (stop_of hNr q hq hne)) ⟨g1, g2, g3, t1, t2, t3, tn, .head _⟩
                have hxl : ∀ q ∈ del it2 nw₄, q.1 ∉ G.all (top :: rest) → q ∈ (top.dx, dictOf [⟨g1, .str "n" t1, .int top.nd.n tn⟩, ⟨g2, .str "arcs" t2, .ref top.ar⟩, ⟨g3, .str "final" t3, .bool true⟩] 3) :: r := fun q hq hn => List.mem_cons_of_mem (top.dx, dictOf [⟨g1, .str "n" t1, .int top.nd.n tn⟩, ⟨g2, .str "arcs" t2, .ref top.ar⟩, ⟨g3, .str "final" t3, .bool true⟩] 3) (stop_of hNr q hq (fun e => hn (e ▸ Ads.mem_foot (.head _) (by first | with_reducible exact NdA.f1 _ | with_reducible exact NdA.f2 _ | with_reducible exact NdA.f3 _ | simp [NdA.foot]))))
                have hrev : cs₄.reverse = str.cps.toList := by rw [hcs4, hpj, ← hslen, List.take_length]
                have P6 := PPre.final (n := top.nd.n) (rest := rest.map (·.nd)) (b := b₂) (cs := cs₄) (by
                  have : top.nd = ⟨top.nd.n, [], false⟩ := by rw [← e1, ← e2]
                  rw [← this]; exact P4) (by
                  have := congrArg List.length hrev
                  rw [List.length_reverse] at this
                  lia)
                refine hKW _ _ _ ?_
                refine WPost.intro (str, ts₁) (ts.length - (k + 1)) ⟨((tT.trans tT2).trans sT).trans tT4, by assumption, by assumption⟩ (by assumption) (by assumption) ?hn7 (fun y hy hyn => ?_) ?hlt7 ⟨k + 1, _, b₂, c + j, cs₄, oi₂, rfl, ?_, hxl _ (mem_del_of hitm4 hitit2) (hex4 it (.tail _ (.head _))), stop_of hItS, Bt7, ⟨bc, ct1, ct2, hxl _ (mem_del_of hct1 hcx2) (hex4 cx (.tail _ (.tail _ (.tail _ (.head _))))), hxl _ (mem_del_of hct2 hcdx2) (hex4 cdx (.tail _ (.tail _ (.head _))))⟩, (show PInv b₂ NN (c + j) (⟨top.nd.n, top.nd.arcs, true⟩ :: rest.map (·.nd)) cs₄ _ from (by rw [e1]; exact P6)).congr (fun x => ?_), hrev, fun h => absurd h (Nat.succ_ne_zero _), fun _ => hstr, by simpa using hroot4, fun dd hdd => ?_, fun q => Nat.le_succ_of_le (hsm2₂ q), ?_, fun q hq => hxl q (mem_del_of (hnw4 q hq) (hnwit2 q hq)) (hex4 _ (.tail _ (.tail _ (.tail _ (.tail _ (List.mem_map_of_mem hq)))))), fun z hz => hex4 z (.tail _ hz)⟩
                case hn7 => walk_at "m_names"
                case hlt7 => have := (List.getElem?_eq_some_iff.mp hstr).1; lia
                · simp only [List.mem_cons, List.not_mem_nil, or_false, not_or] at hy
                  have y0 := hyn _ (.head _)
                  (revert hy; refine x0_5 ?_; intro y1 y2 y3 y4 y5)
                  exact (if_neg y0).trans ((hmE y (by simp [y4, y5]) (fun hm => nomatch hm)).trans ((if_neg y3).trans ((hmC y (fun hm => nomatch hm) fun hm => y2 (List.mem_singleton.mp hm)).trans ((if_neg y2).trans (hmA y (by simp [y2, y3, y4, y5]) (by simp [y0, y1]))))))
                · exact (List.getElem?_eq_some_iff.mp hstr).1
                · rw [List.take_add_one, hstr, hrev]
                  simp
                · rcases List.mem_cons.mp hdd with rfl | hdd
                  · exact hsm4 top (.head _)
                  · exact hsm4 dd (.tail _ hdd)
                · lia
      · intro h₂ hnone F₂ N₂
        have hkts : k = ts.length := by
          have := List.getElem?_eq_none_iff.mp hnone
          lia
        refine frame_at (nms := [(Str.ofString "last", .str lst tl)]) (nmo := [(Str.ofString "dfa", .ref G.x), (Str.ofString "nodes", .ref G.nl), (Str.ofString "seen", .ref G.se)]) (ls := [Str.ofString "string", "i", "prefixlen", "label", "node"]) [Str.ofString "last"] [Str.ofString "dfa", "nodes", "seen"] F₂ hn₁ hm₁ (by walk_at "m_names") rfl rfl (by decide) ?_
        clear F₂
        intro mF F₂ hmF
        dsimp only [over] at F₂
        have hNd : Stop (News g₁ L' h₂ (del it nw₁)) := Stop.out N₂
        have Bt6 : BAt w (del it nw₁) G nds b c (cdx :: cx :: nw.map (·.1)) := Bt.mono1 (stop_of hN) hit (by rw [hIt.1]; simp) (by rw [hIt.1]; simp) (hex it (.head _)) (fun q hq hne => mem_del_of hq hne)
        (revert hct; refine x3_1 ?_; intro bc ct1 ct2; refine x0_2 ?_; intro hct1 hct2)
        have hcxit : cx ≠ it := ne_of_cls (stop_of hN) hct1 hit (by rw [hIt.1]; simp)
        have hcdxit : cdx ≠ it := ne_of_cls (stop_of hN) hct2 hit (by rw [hIt.1]; simp)
        have hnwit : ∀ p ∈ nw, p.1 ≠ it := fun p hp => allLt_ne hal _ (hnwled p hp)
        have hlen := P.pok.length
        have hlcs : cs.length = lst.cps.toList.length := by rw [← hcs]; simp
        simp only [List.length_map] at hlen
        have hllen : lst.cps.toList.length = if k = 0 then 0 else NN := by
          by_cases h0 : k = 0
          · rw [hk0 h0, if_pos h0]; rfl
          · rw [if_neg h0]; exact (htn _ (List.mem_of_getElem? (hk1 (by lia)))).1
        (refine feed (Bt6.nl) ?_; refine x1_1 ?_; intro kk hnl)
        have hz4 : (nds.reverse.map fun d => Value.ref d.x).length < 1000 := by
          have := Bt6.cnt
          simp only [List.length_map, List.length_reverse]
          lia
        refine wpAny_execs_nil ?_
        dsimp only
        k_steps
        · refine Stop.out ?_
          rename (1 < (_ : Int)) => hgt
          simp only [List.length_map, List.length_reverse] at hgt
          have hk0' : k ≠ 0 := fun e => by rw [if_pos e] at hllen; lia
          rw [if_neg hk0'] at hllen
          have hC : CxS w (A.deeper (envOf (Str.ofString "strings_dfa") s19 L' 422 (.ref 421))) A base (env0 :: outer) g₁ L' 5 := ⟨XB, ⟨_, _, _, _, TB⟩, tB, tD, ⟨_, _, _, _, Around.frames_deeper hA, rfl⟩, (by show A.depth + 1 + 5 ≤ 360; lia), (by show A.units + 3 + 6 * 5 ≤ 400; lia)⟩
          refine wpAny_call ?_
          refine suffix_spec (last := lst) (dn := 0) (kk := k) (n₀ := nds.length) (Lang := fun x => x ∈ ts.take k) (ex := cdx :: cx :: nw.map (·.1)) (al := G.all nds) (c := c) (NN := NN) hC (by assumption) (stop_of hNd) hh ?_ ?_ (by lia) (by lia) (by lia) (fun _ => ?_) ?_
          · refine .inl ⟨nds, b, cs, rfl, Nat.zero_le _, Bt6, fun z h => h, P, ?_, by lia, hroot, hsm1, hsm2, fun h => ?_⟩
            · rw [hcs, hlcs, List.take_length]
            · lia
          · intro z hz
            refine ⟨?_, hex z (.tail _ hz)⟩
            rcases List.mem_cons.mp hz with rfl | hz
            · exact y1_1 _ (mem_del_of hct2 hcdxit)
            · rcases List.mem_cons.mp hz with rfl | hz
              · exact y1_1 _ (mem_del_of hct1 hcxit)
              · (refine feed (List.mem_map.mp hz) ?_; refine x1_1 ?_; intro q; refine x0_2 ?_; intro hq; intro zz9; subst zz9)
                exact y1_1 q.2 (mem_del_of (hnw q hq) (hnwit q hq))
          · have hk1' := hk1 (by lia)
            exact y1_1 _ (List.mem_take_iff_getElem.mpr ⟨k - 1, by have := (List.getElem?_eq_some_iff.mp hk1').1; lia, (List.getElem?_eq_some_iff.mp hk1').2⟩)
          · rintro g₃ h₄ tk₄ nw₃ n' ⟨sT, sB, sD⟩ F₆ N₆ hn' J₆ hkeep
            dsimp only
            have XX3 := XB.keeps sB.stays
            have TT3 := TB.keeps sB.stays
            rcases J₆ with J₆ | J₆
            · exfalso
              (revert J₆; refine x3_1 ?_; intro nds₂ b₂ cs₂; refine x0_6 ?_; intro zz9; subst zz9; intro hdn₂ Bt₂ hal₂ P₂ _)
              have := P₂.pok.length
              simp only [List.length_map] at this
              lia
            · obtain ⟨rfl, _, b₂, Bt₂, hok₂, hsm₂, htg₂, hacc₂⟩ := J₆
              have hT6 : KtsTurn ((env0 :: outer).filterMap (·.frame)) g' g₃ := tT.trans sT
              k_steps
              refine h _ _ _ G nw₃ b₂ ⟨by assumption, by assumption, by assumption⟩ (by assumption) (by assumption) (fun q hq => ?_) (Bt₂.done (by lia) hok₂.good (fun q => Nat.le_trans (hsm₂ q) (by lia)) (fun z hz => .tail _ (.tail _ hz)) htg₂) (fun x => ?_)
              · have hqa : q.1 ∉ G.all nds := hex q.1 (.tail _ (.tail _ (.tail _ (List.mem_map_of_mem hq))))
                exact ⟨hkeep q (mem_del_of (hnw q hq) (hnwit q hq)) hqa (.inl (.tail _ (.tail _ (List.mem_map_of_mem hq)))), fun hm => hqa (Ads.mem_fix hm)⟩
              · rw [hacc₂ x, hkts, List.take_length]
        · rename (¬ 1 < (_ : Int)) => hgt
          simp only [List.length_map, List.length_reverse] at hgt
          have hk0' : k = 0 := by
            by_cases h0 : k = 0
            · exact h0
            · rw [if_neg h0] at hllen; lia
          have hts0 : ts = [] := List.eq_nil_of_length_eq_zero (by lia)
          cases nds with
          | nil => simp at hlen
          | cons top rest =>
          cases rest with
          | cons _ _ => simp only [List.length_cons] at hgt; lia
          | nil =>
          (refine feed (PInv.top (top := top.nd) (rest := []) P) ?_; refine x0_6 ?_; intro p1 _ _ _ p5 p6)
          have h0 : top.nd.n = 0 := by simpa using hroot
          rw [h0] at p1 p5 p6
          refine h _ _ _ G _ b ⟨by assumption, by assumption, by assumption⟩ (by assumption) (by assumption) (fun q hq => ?_) (Bt6.done (by lia) P.ok.good (fun q => Nat.le_trans (hsm2 q) (by lia)) (fun z hz => .tail _ (.tail _ hz)) (P.ok.tlt P.reg p1)) (fun x => ?_)
          · exact ⟨mem_del_of (hnw q hq) (hnwit q hq), fun hm => hex q.1 (.tail _ (.tail _ (.tail _ (List.mem_map_of_mem hq)))) (Ads.mem_fix hm)⟩
          · rw [hts0]
            constructor
            · intro hx; exact absurd hx (Bld.acc_none p5 p6 x)
            · intro hx; cases hx)
end Sdf
section NV0
theorem nodup_bound : ∀ (n : Nat) (l : List Nat), l.Nodup → (∀ x ∈ l, x < n) → l.length ≤ n
  | 0, l, _, h => by
    cases l with
    | nil => exact Nat.le_refl 0
    | cons a l => exact absurd (h a (.head _)) (Nat.not_lt_zero _)
  | n + 1, l, hn, h => by
    have h1 := nodup_bound n (l.erase n) (hn.erase n) fun x hx => by
      have hx2 := (List.Nodup.mem_erase_iff hn).1 hx
      have := h x hx2.2
      have := hx2.1
      lia
    rw [List.length_erase] at h1
    split at h1 <;> lia
theorem keys_bound {n : Nat} {ks : List Int} (hn : ks.Nodup) (h : ∀ z : Int, z ∈ ks → ∃ q : Nat, z = (q : Int) ∧ q < n) : ks.length ≤ n := by
  have := nodup_bound n (ks.map Int.toNat) ?_ ?_
  · simpa using this
  · rw [List.nodup_iff_pairwise_ne, List.pairwise_map]
    refine List.Pairwise.imp_of_mem ?_ (List.nodup_iff_pairwise_ne.mp hn)
    intro a b ha hb hab e
    (refine feed (h a ha) ?_; refine x1_1 ?_; intro q; refine x0_2 ?_; intro zz9; subst zz9; intro _)
    (refine feed (h b hb) ?_; refine x1_1 ?_; intro r; refine x0_2 ?_; intro zz9; subst zz9; intro _)
    simp at e
    exact hab (by rw [e])
  · intro x hx
    (refine feed (List.mem_map.mp hx) ?_; refine x1_1 ?_; intro z; refine x0_2 ?_; intro hz; intro zz9; subst zz9)
    (refine feed (h z hz) ?_; refine x1_1 ?_; intro q; refine x0_2 ?_; intro zz9; subst zz9; intro hq)
    simpa using hq
noncomputable def KeysOfT (as : List (Nat × Nat)) : List Str := as.map fun a => ch a.1
noncomputable def OlIs (w : World) (l : Led) (ol : Addr) (T : Nat → List (Nat × Nat)) (av : List Addr) : Prop :=
  ∃ oo kvo, (ol, oo) ∈ l ∧ oo.IsDictOf (intKind prog w) kvo ∧ (∀ z : Int, z ∈ kvo.map (·.1) → ∃ q : Nat, z = (q : Int) ∧ q < 900) ∧
    ∀ q : Nat, valueAt kvo (q : Int) = none ∨ ∃ B vs ss c, valueAt kvo (q : Int) = some (.ref B) ∧ (B, listOf (List.toArray vs) c) ∈ l ∧ B ∉ av ∧ StrsAre vs ss ∧ ss.Perm (KeysOfT (T q)) ∧ ss.Pairwise (fun a b => ¬ b.cps.toList < a.cps.toList)
noncomputable def Ads.six (G : Ads) : List Addr := [G.x, G.dx, G.tr, G.de, G.fs, G.ol]
theorem Ads.six_fix {G : Ads} {z : Addr} (h : z ∈ G.six) : z ∈ G.fix := by
  simp only [Ads.six, Ads.fix, List.mem_cons, List.not_mem_nil, or_false] at h ⊢
  rcases h with h | h | h | h | h | h <;> simp [h]
structure SrAt (w : World) (l : Led) (G : Ads) (b : Bld) (av : List Addr) : Prop where
  dfa : DfaAt l G.x G.dx G.tr G.de G.fs G.ol
  de : ∃ o, (G.de, o) ∈ l ∧ o.IsDictOf (intKind prog w) []
  fs : FsIs w l G.fs b.F 900
  tr : TransIs w l G.tr b.T 900 (G.fix ++ av)
  ol : OlIs w l G.ol b.T av
  lo : (G.tr == sysModules) = false ∧ (G.de == sysModules) = false ∧ (G.ol == sysModules) = false
  nodup : G.fix.Nodup
theorem DfaDone.sr {w : World} {l : Led} {G : Ads} {b : Bld} {kk : Nat} {av : List Addr} (D : DfaDone w l G b kk av) : SrAt w l G b av := by
  (refine feed (D.ol) ?_; refine x1_1 ?_; intro o; refine x0_2 ?_; intro h1 h2)
  exact ⟨D.dfa, D.de, D.fs, D.tr, ⟨o, [], h1, h2, (fun z hz => nomatch hz), fun q => .inl rfl⟩, ⟨D.lo.1, D.lo.2.1, D.lo.2.2.1⟩, D.nodup⟩
/-- a change at an object that is none of the automaton's own -/
theorem SrAt.mono {w : World} {l l' : Led} {G : Ads} {b : Bld} {av : List Addr} (S : SrAt w l G b av) (hs : ∀ p ∈ l, p.1 ∈ G.six ∨ ((p.2.cls = .type "dict" ∨ p.2.cls = .type "list") ∧ p.1 ∉ av) → p ∈ l') : SrAt w l' G b av := by
  (refine feed (S.de) ?_; refine x1_1 ?_; intro o1; refine x0_2 ?_; intro y1 z1)
  (refine feed (S.ol) ?_; refine x2_1 ?_; intro oo kvo; refine x0_4 ?_; intro c1 c2 c3 c4)
  have fx : ∀ z o, z ∈ G.six → (z, o) ∈ l → (z, o) ∈ l' := fun z o hz hm => hs _ hm (.inl hz)
  refine ⟨S.dfa.mono (fun o hm => fx _ o (by simp [Ads.six]) hm) (fun o hm => fx _ o (by simp [Ads.six]) hm), ⟨o1, fx _ _ (by simp [Ads.six]) y1, z1⟩, S.fs.mono (fun o hm => fx _ o (by simp [Ads.six]) hm), S.tr.mono fun p hp hc hz => hs p hp (hz.elim (fun e => .inl (by rw [e]; simp [Ads.six])) fun hn => .inr ⟨.inl hc, fun hm => hn (List.mem_append_right _ hm)⟩), ⟨oo, kvo, fx _ _ (by simp [Ads.six]) c1, c2, c3, fun q => ?_⟩, S.lo, S.nodup⟩
  rcases c4 q with h | ⟨B, vs, ss, c, h1, h2, h3, h4⟩
  · exact .inl h
  · exact .inr ⟨B, vs, ss, c, h1, hs _ h2 (.inr ⟨.inr rfl, h3⟩), h3, h4⟩
theorem SrAt.there {w : World} {l : Led} {G : Ads} {b : Bld} {av : List Addr} (S : SrAt w l G b av) : ∀ z ∈ G.six, ∃ o, (z, o) ∈ l := by
  intro z hz
  (refine feed (S.dfa) ?_; refine x0_2 ?_; intro d1; refine x11_1 ?_; intro g1 g2 g3 g4 g5 t1 t2 t3 t4 t5 tn d2)
  (refine feed (S.de) ?_; refine x1_1 ?_; intro o1; refine x0_2 ?_; intro e1 _)
  (refine feed (S.ol) ?_; refine x2_1 ?_; intro o2 _; refine x0_2 ?_; intro e2 _)
  (refine feed (S.fs) ?_; refine x3_1 ?_; intro o3 _ _; refine x0_2 ?_; intro e3 _)
  (refine feed (S.tr) ?_; refine x2_1 ?_; intro o4 _; refine x0_2 ?_; intro e4 _)
  simp only [Ads.six, List.mem_cons, List.not_mem_nil, or_false] at hz
  rcases hz with rfl | rfl | rfl | rfl | rfl | rfl
  · exact y1_1 _ d1
  · exact y1_1 _ d2
  · exact y1_1 _ e4
  · exact y1_1 _ e1
  · exact y1_1 _ e3
  · exact y1_1 _ e2
theorem SrAt.more {w : World} {l : Led} {G : Ads} {b : Bld} {av : List Addr} {z : Addr} (S : SrAt w l G b av) (hz : Fresh l z) : SrAt w l G b (z :: av) := by
  (refine feed (S.ol) ?_; refine x2_1 ?_; intro oo kvo; refine x0_4 ?_; intro c1 c2 c3 c4)
  refine ⟨S.dfa, S.de, S.fs, (S.tr.more (l' := l) (new := [z]) (fun y hy => by rw [List.mem_singleton.mp hy]; exact hz)).sub (fun q => rfl) (Nat.le_refl _) (fun y hy => ?_), ⟨oo, kvo, c1, c2, c3, fun q => ?_⟩, S.lo, S.nodup⟩
  · rcases List.mem_append.mp hy with hy | hy
    · exact List.mem_append_right _ (List.mem_append_left _ hy)
    · rcases List.mem_cons.mp hy with rfl | hy
      · exact List.mem_append_left _ (.head _)
      · exact List.mem_append_right _ (List.mem_append_right _ hy)
  · rcases c4 q with h | ⟨B, vs, ss, c, h1, h2, h3, h4⟩
    · exact .inl h
    · refine .inr ⟨B, vs, ss, c, h1, h2, fun hm => ?_, h4⟩
      rcases List.mem_cons.mp hm with rfl | hm
      · exact hz _ h2 rfl
      · exact h3 hm
theorem SrAt.less {w : World} {l : Led} {G : Ads} {b : Bld} {av av' : List Addr} (S : SrAt w l G b av) (ha : ∀ z ∈ av', z ∈ av) : SrAt w l G b av' := by
  (refine feed (S.ol) ?_; refine x2_1 ?_; intro oo kvo; refine x0_4 ?_; intro c1 c2 c3 c4)
  refine ⟨S.dfa, S.de, S.fs, S.tr.sub (fun q => rfl) (Nat.le_refl _) (fun y hy => ?_), ⟨oo, kvo, c1, c2, c3, fun q => ?_⟩, S.lo, S.nodup⟩
  · rcases List.mem_append.mp hy with hy | hy
    · exact List.mem_append_left _ hy
    · exact List.mem_append_right _ (ha y hy)
  · rcases c4 q with h | ⟨B, vs, ss, c, h1, h2, h3, h4⟩
    · exact .inl h
    · exact .inr ⟨B, vs, ss, c, h1, h2, fun hm => h3 (ha _ hm), h4⟩
theorem edge_of {kv : List (Str × Value)} {A : Aut} (G : A.Good) {q lb : Nat} {v : Value} (hk : ArcsV kv (A.arcs q)) (h : NextEdge kv [lb] v) : (A.edge q lb = none ∧ v = .none) ∨ ∃ a t, A.edge q lb = some a ∧ v = .str (ch a.1) t := by
  have hkeys := hk.keys
  have hlt : ∀ c, (ch c).cps.toList < [lb] ↔ c < lb := fun c => by
    show [c] < [lb] ↔ _
    simp [List.cons_lt_cons_iff]
  rcases h with ⟨k, t, rfl, h1, h2, h3⟩ | ⟨rfl, h1⟩
  · rw [hkeys] at h1 h3
    (refine feed (List.mem_map.mp h1) ?_; refine x1_1 ?_; intro a; refine x0_2 ?_; intro ha; intro zz9; subst zz9)
    rw [hlt] at h2
    refine .inr ⟨a, t, ?_, rfl⟩
    unfold Aut.edge
    cases he : (A.arcs q).find? (fun a => decide (lb ≤ a.1)) with
    | none =>
      rw [List.find?_eq_none] at he
      have := he a ha
      simp at this
      lia
    | some e =>
      (refine feed (edge_least (G.sorted q) he) ?_; refine x0_3 ?_; intro e1 e2 e3)
      rcases e3 a ha (by lia) with e4 | e4
      · rw [e4]
      · exfalso
        refine h3 (ch e.1) (List.mem_map_of_mem e2) (by rw [hlt]; lia) ?_
        exact ch_lt.2 e4
  · refine .inl ⟨?_, rfl⟩
    unfold Aut.edge
    rw [List.find?_eq_none]
    intro a ha
    have := h1 (ch a.1) (by rw [hkeys]; exact List.mem_map_of_mem ha)
    rw [hlt] at this
    simp; lia
theorem edge_spec : ∀ {w : World} {A A₀ : Around} {base : Heap} {outer : List Env} {s : Shared} {h₀ : Heap} {L : Addr} {m : Str → Option Value} {nw : Led} (C : CxS w A A₀ base outer h₀ L 0) (F : Fr h₀ L s.heap m) (N : News h₀ L s.heap nw)
    (hh : A.handled = none) {R : Result → Shared → Prop} {G : Ads} {b : Bld} {av : List Addr} (S : SrAt w nw G b av) (hav : ∀ z ∈ av, ∃ o, (z, o) ∈ nw) (good : b.aut.Good) (hsm : ∀ q, (b.T q).length ≤ 40) {q : Nat} (hq : q < 900) {t : Tok} {lv : Value} {lb : Nat} (hl : (lv = .none ∧ lb = 0) ∨ ∃ c0 t, lv = .str ⟨#[c0]⟩ t ∧ c0 < 1000 ∧ lb = c0 + 1)
    (_h : ∀ h₀' h' tk' v nw', TurnS A₀ base outer h₀ h₀' → Fr h₀' L h' m → News h₀' L h' nw' → Keep [G.ol] nw nw' → SrAt w nw' G b av → (b.aut.edge q lb = none ∧ v = .none) ∨ (∃ a t, b.aut.edge q lb = some a ∧ v = .str (ch a.1) t) → R (.ok (.ret v)) ⟨h', s.gens, s.drawn, tk', s.os⟩),
    codeAny (model prog w) A (.call (.ref 286) ⟨[.ref G.x, .int q t, lv], [(Str.ofString "asbytes", .bool false)]⟩) R s := by
  intro w A A₀ base outer s h₀ L m nw C F N hh R G b av S hav good hsm q hq t lv lb hl h
  (refine feed (S.tr) ?_; refine x2_1 ?_; intro ot kvs; refine x0_6 ?_; intro t1 t2 t3 t4 t5 t6)
  (refine feed (S.de) ?_; refine x1_1 ?_; intro od; refine x0_2 ?_; intro d1 d2)
  (refine feed (S.ol) ?_; refine x2_1 ?_; intro oo kvo; refine x0_4 ?_; intro o1 o2 o3 o4)
  (refine feed ((t4 q).trans) ?_; refine x1_1 ?_; intro kv; refine x0_2 ?_; intro k1 k2)
  have hkl := k2.length
  have hkeys := k2.keys
  have hsl := sizeLine_eq
  have hnd : (kvo.map (·.1)).Nodup := by (revert o2; refine x2_1 ?_; intro _ _; refine x0_5 ?_; intro _ _ _ _ h); exact h
  have hol : kvo.length ≤ 900 := by simpa using keys_bound hnd o3
  have hdis := S.nodup
  replace hdis := Ads.fix_ne hdis
  (revert hdis; refine x0_8 ?_; refine x0_7 ?_; intro f1 f2 f3 f4 f5 f6 f7; refine x0_6 ?_; intro e2 e3 e4 e5 e6 e7; refine x0_5 ?_; intro c3 c4 c5 c6 c7; refine x0_4 ?_; intro b4 b5 b6 b7; refine x0_3 ?_; intro a5 a6 a7; refine x0_2 ?_; intro z6 z7; intro y7 _)
  have fin : ∀ (cd : List Nat), cd = [lb] → ∀ h₀' h' tk' v nw' kvo' oo', TurnS A₀ base outer h₀ h₀' → Fr h₀' L h' m → News h₀' L h' nw' → Keep [G.ol] nw nw' → (G.ol, oo') ∈ nw' → oo'.IsDictOf (intKind prog w) kvo' → OutStep nw nw' kvo kvo' q kv → NextEdge kv cd v → R (.ok (.ret v)) ⟨h', s.gens, s.drawn, tk', s.os⟩ := by
    rintro cd rfl h₀' h' tk' v nw' kvo' oo' hT hF hN hK hm hd hO hE
    have stay : ∀ p ∈ nw, p.1 ≠ G.ol → p ∈ nw' := fun p hp hne => hK p hp (by simpa using hne)
    have keepB : ∀ {B vs c}, (B, listOf (List.toArray vs) c) ∈ nw → (B, listOf (List.toArray vs) c) ∈ nw' := fun {B vs c} hB => stay _ hB (ne_of_cls N hB o1 (by (revert o2; refine x2_1 ?_; intro _ _; refine x0_2 ?_; intro hex _); rw [hex.1]; simp))
    refine h h₀' h' tk' v nw' hT hF hN hK ⟨?_, ⟨od, stay _ d1 b5, d2⟩, S.fs.mono (fun o ho => stay _ ho a5), S.tr.mono (fun p hp hc hz => stay p hp ?_), ?_, S.lo, S.nodup⟩ (edge_of good k2 hE)
    · exact S.dfa.mono (fun o ho => stay _ ho f5) (fun o ho => stay _ ho e5)
    · rcases hz with hz | hz
      · rw [hz]; exact c5
      · exact fun e => hz (List.mem_append_left _ (by rw [e]; simp [Ads.fix]))
    · rcases hO with rfl | ⟨hv, B, vs, ss, c, rfl, hB, ⟨s1, s2, s3⟩, hfB⟩
      · refine y2_1 oo' kvo' (ya4 hm hd o3 (fun r => ?_))
        rcases o4 r with h | ⟨B, vs, ss, c, h1, h2, h3⟩
        · exact .inl h
        · exact .inr ⟨B, vs, ss, c, h1, keepB h2, h3⟩
      · have hBav : B ∉ av := fun hm => by
          (refine feed (hav B hm) ?_; refine x1_1 ?_; intro o ho)
          exact hfB _ ho rfl
        refine y2_1 oo' _ (ya4 hm hd (fun z hz => ?_) (fun r => ?_))
        · rw [stored_absent hv, List.map_append] at hz
          rcases List.mem_append.mp hz with hz | hz
          · exact o3 z hz
          · exact y1_1 q (ya2 (by simpa using hz) hq)
        · rw [valueAt_stored]
          by_cases e : r = q
          · subst e
            rw [if_pos rfl]
            exact .inr ⟨B, vs, ss, c, rfl, hB, hBav, s1, by rw [hkeys] at s2; exact s2, s3⟩
          · rw [if_neg (by lia)]
            rcases o4 r with h | ⟨B', vs', ss', c', h1, h2, h3⟩
            · exact .inl h
            · exact .inr ⟨B', vs', ss', c', h1, keepB h2, h3⟩
  have hsize : ∀ {vs : List Value} {ss : List Str}, StrsAre vs ss → ss.Perm (KeysOfT (b.T q)) → vs.length < 1000 := fun {vs ss} hS hp => by
    have h1 := hS.length
    have h2 := hp.length_eq
    have := hsm q
    simp only [KeysOfT, List.length_map] at h2
    lia
  rcases hl with ⟨rfl, rfl⟩ | ⟨c0, tl, rfl, hc0, rfl⟩
  · rcases o4 q with hm | ⟨B, vs, ss, c, h1, h2, h2', h3, h4, h5⟩
    · exact edge_m0 C F N hh S.dfa t1 t2 S.lo.1 d1 d2 S.lo.2.1 o1 o2 S.lo.2.2 k1 hm (by lia) (by have := hsm q; lia) (fin _ rfl)
    · exact edge_c0 C F N hh S.dfa t1 t2 S.lo.1 d1 d2 S.lo.2.1 o1 o2 S.lo.2.2 k1 h1 h2 h3 (hsize h3 h4) (by rw [hkeys]; exact h4) h5 (fin _ rfl)
  · rcases o4 q with hm | ⟨B, vs, ss, c, h1, h2, h2', h3, h4, h5⟩
    · exact edge_m1 C F N hh S.dfa t1 t2 S.lo.1 d1 d2 S.lo.2.1 o1 o2 S.lo.2.2 k1 hc0 hm (by lia) (by have := hsm q; lia) (fin _ rfl)
    · exact edge_c1 C F N hh S.dfa t1 t2 S.lo.1 d1 d2 S.lo.2.1 o1 o2 S.lo.2.2 k1 hc0 h1 h2 h3 (hsize h3 h4) (by rw [hkeys]; exact h4) h5 (fin _ rfl)
end NV0
section NV1
theorem ArcsV.next {c : Nat} : ∀ {kvs as}, ArcsV kvs as → (((as.find? fun a => a.1 = c).map (·.2)) = none ∧ valueAt kvs (ch c) = none) ∨ ∃ q t, ((as.find? fun a => a.1 = c).map (·.2)) = some q ∧ valueAt kvs (ch c) = some (.int (q : Nat) t)
  | [], [], _ => .inl ⟨rfl, rfl⟩
  | kv :: kvs, a :: as, ⟨e, ⟨t, e2⟩, r⟩ => by
    by_cases h : a.1 = c
    · refine .inr ⟨a.2, t, by simp [List.find?, h], ?_⟩
      unfold valueAt
      simp [List.find?, e, h, e2]
    · have h' : ¬ kv.1 = ch c := fun x => h (ch_inj (e ▸ x))
      have := ArcsV.next (c := c) r
      unfold valueAt at this ⊢
      simpa [List.find?, h, h'] using this
  | [], _ :: _, x => x.elim
  | _ :: _, [], x => x.elim
/-- a state, or none -/
noncomputable def StV (o : Option Nat) (v : Value) : Prop := (o = none ∧ v = .none) ∨ ∃ q t, o = some q ∧ v = .int (q : Nat) t
noncomputable def finO (b : Bld) : Option Nat → Bool
  | none => false
  | some q => b.F q
theorem next_st : ∀ {w : World} {A : Around} {s : Shared} {h₀ : Heap} {L : Addr} {m : Str → Option Value} {nw : Led} (C : Cx w A h₀ L 0) (F : Fr h₀ L s.heap m) (N : News h₀ L s.heap nw)
    (hh : A.handled = none) {R : Result → Shared → Prop} {G : Ads} {b : Bld} {av : List Addr} (S : SrAt w nw G b av) {q c : Nat} {t tl : Tok}
    (_h : ∀ h' tk' v, Fr h₀ L h' m → News h₀ L h' nw → StV (b.aut.next q c) v → R (.ok (.ret v)) ⟨h', s.gens, s.drawn, tk', s.os⟩),
    codeAny (model prog w) A (.call (.ref 271) ⟨[.ref G.x, .int q t, .str (ch c) tl], []⟩) R s := by
  intro w A s h₀ L m nw C F N hh R G b av S q c t tl h
  (refine feed (S.tr) ?_; refine x2_1 ?_; intro ot kvs; refine x0_6 ?_; intro t1 t2 t3 t4 t5 t6)
  (refine feed (S.de) ?_; refine x1_1 ?_; intro od; refine x0_2 ?_; intro d1 d2)
  (refine feed ((t4 q).trans) ?_; refine x1_1 ?_; intro kv; refine x0_2 ?_; intro k1 k2)
  refine next_spec C F N hh S.dfa t1 t2 S.lo.1 d1 d2 S.lo.2.1 k1 fun h' tk' F' N' => h h' tk' _ F' N' ?_
  rcases k2.next (c := c) with ⟨h1, h2⟩ | ⟨q', t', h1, h2⟩
  · exact .inl ⟨h1, by rw [h2]; rfl⟩
  · exact .inr ⟨q', t', h1, by rw [h2]; rfl⟩
theorem final_st : ∀ {w : World} {A : Around} {s : Shared} {h₀ : Heap} {L : Addr} {m : Str → Option Value} {nw : Led} (C : Cx w A h₀ L 0) (F : Fr h₀ L s.heap m) (N : News h₀ L s.heap nw)
    (hh : A.handled = none) {R : Result → Shared → Prop} {G : Ads} {b : Bld} {av : List Addr} (S : SrAt w nw G b av) {o : Option Nat} {v : Value} (hv : StV o v)
    (_h : ∀ h' tk', Fr h₀ L h' m → News h₀ L h' nw → R (.ok (.ret (.bool (finO b o)))) ⟨h', s.gens, s.drawn, tk', s.os⟩),
    codeAny (model prog w) A (.call (.ref 264) ⟨[.ref G.x, v], []⟩) R s := by
  intro w A s h₀ L m nw C F N hh R G b av S o v hv h
  (refine feed (S.fs) ?_; refine x3_1 ?_; intro of Sf n; refine x0_5 ?_; intro f1 f2 f3 f4 f5)
  have hsb : (scanBound : Nat) = 4096 := rfl
  rcases hv with ⟨rfl, rfl⟩ | ⟨q, t, rfl, rfl⟩
  · exact final_none C F N S.dfa f1 f2 (by lia) (fun k hk => ⟨(f5 k hk).1, by have := (f5 k hk).2; lia⟩) fun h' tk' F' N' => h h' tk' F' N'
  · exact final_spec C F N hh S.dfa f1 f2 (by lia) fun h' tk' F' N' => by rw [f4 q]; exact h h' tk' F' N'
theorem assign_triple {w : World} {A : Around} {E : Value → Shared → Prop} {s : Shared} {env : Env} {g : Heap} {P : Shared → Prop} {m : Str → Option Value} {nw : Led} {t : Addr} {x y z : Str} {px py pz pt : Pos} {x1} {u v r : Value} (hh : A.handled = none) (hx : env.kindOf x = some .local) (hy : env.kindOf y = some .local) (hz : env.kindOf z = some .local) (hp : (env.scope.kind == .class || (env.scope.kind == .module && env.locals != env.globals)) = false)
    (ht : s.heap.IsTuple t #[u, v, r]) (F : Fr g env.locals s.heap m) (N : News g env.locals s.heap nw)
    (h : ∀ h' tk, Fr g env.locals h' (fun a => if a = z then some r else if a = y then some v else if a = x then some u else m a) → News g env.locals h' nw → P { s with heap := h', toks := tk }) :
    wpAny (model prog w) A (assign (.Tuple [.Name x px, .Name y py, .Name z pz] x1 pt) env (.ref t)) (fun _ s₂ => P s₂) E s := by
  refine wpAny_assign_Tuple hh ht rfl rfl fun h₁ hx₁ => ?_
  replace hx₁ : Heap.ExtBut s.heap.objs.size s.heap h₁ := hx₁
  have up : ∀ b o, s.heap.get? b = some o → h₁.get? b = some o := fun b o e => hx₁ b o (Nat.ne_of_lt (Heap.lt_size e)) e
  (refine feed (led_grow F N up) ?_; refine x0_2 ?_; intro F₁ N₁)
  show wpAny _ _ (do holding [v, r] (assign (.Name x px) env u); do holding [r] (assign (.Name y py) env v); do holding [] (assign (.Name z pz) env r); pure ()) _ _ _
  refine wpAny_bind (wpAny_holding (wpAny_assign_Name (wpAny_storeName_local hx F₁.ns (fun h₂ hn₂ hs₂ => ?_) hp)))
  replace hs₂ : Heap.SameBut env.locals h₁ h₂ := hs₂
  have F₂ := F₁.set hn₂ hs₂
  refine wpAny_bind (wpAny_holding (wpAny_assign_Name (wpAny_storeName_local hy F₂.ns (fun h₃ hn₃ hs₃ => ?_) hp)))
  replace hs₃ : Heap.SameBut env.locals h₂ h₃ := hs₃
  have F₃ := F₂.set hn₃ hs₃
  refine wpAny_bind (wpAny_holding (wpAny_assign_Name (wpAny_storeName_local hz F₃.ns (fun h₄ hn₄ hs₄ => wpAny_pure ?_) hp)))
  replace hs₄ : Heap.SameBut env.locals h₃ h₄ := hs₄
  exact h h₄ _ (F₃.set hn₄ hs₄) (((N₁.set hs₂).set hs₃).set hs₄)
theorem truthy_list_M {w : World} {A : Around} {E : Value → Shared → Prop} {s : Shared} {h₀ : Heap} {L d : Addr} {nw : Led} {vs : List Value} {c : Nat} {Q : Bool → Shared → Prop} (N : News h₀ L s.heap nw) (hp : (d, listOf vs.toArray c) ∈ nw) (hz : vs.length < 1000)
    (h : ∀ tk, Q (decide (vs ≠ [])) { s with toks := tk }) : wpAny (model prog w) A (truthy (.ref d)) Q E s := by
  refine wpAny_truthy_list (News.isList N hp) (by simp only [List.size_toArray]; lia) ?_
  have e : (!vs.toArray.isEmpty) = decide (vs ≠ []) := by
    cases vs with
    | nil => rfl
    | cons a l => rfl
  rw [e]
  exact h _
theorem edge_next {A : Aut} (G : A.Good) {q lb : Nat} {a : Nat × Nat} (h : A.edge q lb = some a) : A.next q a.1 = some a.2 := by
  (refine feed (edge_least (G.sorted q) h) ?_; refine x0_3 ?_; intro h1 h2 h3)
  cases hn : A.next q a.1 with
  | none => exact absurd h2 (Aut.next_none hn)
  | some q' =>
    have := pw_key (G.sorted q) h2 (Aut.next_some hn)
    rw [this]
end NV1
section NV2
theorem For_X {α β : Type} {w : World} {A A₀ : Around} {base : Heap} {outer : List Env} {E : Value → Shared → Prop} {Q : Flow → Shared → Prop} {s : Shared} {env : Env} {g : Heap} {target : Expr} {it : Value} {body orelse : List Stmt} {m₀ : Str → Option Value} {nw : Led}
    (names : α → List (Str × Value)) (loose : Str → Prop) (J : Nat → α → Led → Prop) (names' : β → List (Str × Value)) (loose' : Str → Prop) (D : β → Led → Prop) (st₀ : α) (n₀ : Nat)
    (T : TurnS A₀ base outer g g) (F : Fr g env.locals s.heap m₀) (N : News g env.locals s.heap nw) (hm0 : ∀ p ∈ names st₀, m₀ p.1 = some p.2) (hJ : J n₀ st₀ nw)
    (turn : ∀ (KW : Nat → Flow → Shared → Prop) (KX : Flow → Shared → Prop), (∀ n f s', WPost A₀ base outer g env.locals names loose m₀ J n (WX A₀ base outer g env.locals names' loose' m₀ D s) s f s' → KW n f s') → (∀ f s', WX A₀ base outer g env.locals names' loose' m₀ D s f s' → KX f s') → ∀ n st g' m₁ nw₁ h₁ tk₁, TurnS A₀ base outer g g' → Fr g' env.locals h₁ m₁ → News g' env.locals h₁ nw₁ → (∀ p ∈ names st, m₁ p.1 = some p.2) → (∀ y, ¬ loose y → (∀ p ∈ names st, y ≠ p.1) → m₁ y = m₀ y) → J n st nw₁ →
      NextTo w A env target it (fun s₁ => wpAny (model prog w) A (execs orelse env) KX E s₁) (fun s₂ => wpAny (model prog w) A (execs body env) (KW n) E s₂) E { s with heap := h₁, toks := tk₁ })
    (after : ∀ g' h tk m nw st, TurnS A₀ base outer g g' → Fr g' env.locals h m → News g' env.locals h nw → (∀ p ∈ names' st, m p.1 = some p.2) → (∀ y, ¬ loose' y → (∀ p ∈ names' st, y ≠ p.1) → m y = m₀ y) → D st nw → Q .next { s with heap := h, toks := tk })
    (hE : PassesOwn (model prog w) A env E := by passes_own) :
    codeAny (model prog w) A (.forLoop target it body orelse env) (fun r s' => match r with | .ok f => Q f s' | .error e => cameBackBy (model prog w) A env E e s') s := by
  refine codeAny_mono (For_S (Q := WX A₀ base outer g env.locals names' loose' m₀ D s) names loose J st₀ n₀ T F N hm0 hJ (fun KW hKW => turn KW (WX A₀ base outer g env.locals names' loose' m₀ D s) hKW (fun _ _ h => h)) hE) fun r s' hr => ?_
  cases r with
  | error e => exact hr
  | ok f =>
    obtain ⟨rfl, g', h, tk, m, nw', st, rfl, a, b, c, d, e, f⟩ := hr
    exact after g' h tk m nw' st a b c d e f
theorem enum_str_M {w : World} {A : Around} {E : Value → Shared → Prop} {s : Shared} {g : Heap} {L : Addr} {m : Str → Option Value} {nw : Led} {x : Str} {t : Tok} {Q : Value → Shared → Prop} (ha : x.cps.all (· < 128) = true) (F : Fr g L s.heap m) (N : News g L s.heap nw)
    (h : ∀ h' e it oi, Fr g L h' m → News g L h' ((e, enumIt it 0 .none) :: (it, oi) :: nw) → AllLt it nw → AllLt e nw → it < e → StrIt oi x t 0 → Q (.ref e) { s with heap := h' }) : wpAny (model prog w) A (call (.type "enumerate") [.str x t]) Q E s := by
  refine call_enumerate_str fun h' he hi hz hk => ?_
  have e : strIterType x = "str_ascii_iterator" := by unfold strIterType; rw [if_pos ha]
  rw [e] at hi
  (revert hi; refine x1_1 ?_; intro oi; refine x0_3 ?_; intro ho hc hd)
  (refine feed (led_new F N hk (Nat.le_refl _) ho) ?_; refine x0_2 ?_; intro F₁ N₁)
  have hs : ∀ {a}, s.heap.objs.size ≤ a → a ≠ L ∧ g.get? a = none := fun {a} ha => by
    refine ⟨Nat.ne_of_gt (Nat.lt_of_lt_of_le F.ns.lt ha), ?_⟩
    cases q : g.get? a with
    | none => rfl
    | some x => exact absurd (Heap.lt_size (F.keep a x q)) (Nat.not_lt.mpr ha)
  refine h h' _ _ oi F₁ (fun p hp => ?_) (allLt_of fun p hp => Heap.lt_size (N p hp).1) (allLt_of fun p hp => Nat.lt_succ_of_lt (Heap.lt_size (N p hp).1)) (Nat.lt_succ_self _) ⟨hc, hd⟩
  rcases List.mem_cons.mp hp with rfl | hp
  · exact ⟨he, hs (Nat.le_succ _)⟩
  · exact N₁ p hp
noncomputable def LbV (v : Value) (lb : Nat) : Prop := (v = .none ∧ lb = 0) ∨ ∃ c0 t, v = .str ⟨#[c0]⟩ t ∧ c0 < 1000 ∧ lb = c0 + 1
noncomputable def TupsAre (l : Led) : List Addr → List Entry → Prop
  | [], [] => True
  | a :: as, e :: st => (∃ x t t' lv, (a, tupObj #[.str x t, .int (e.2.1 : Nat) t', lv]) ∈ l ∧ x.cps.toList = e.1 ∧ LbV lv e.2.2) ∧ TupsAre l as st
  | _, _ => False
theorem TupsAre.mono {l l' : Led} (h : ∀ a xs, (a, tupObj xs) ∈ l → (a, tupObj xs) ∈ l') : ∀ {as st}, TupsAre l as st → TupsAre l' as st
  | [], [], _ => trivial
  | a :: as, e :: st, ⟨⟨x, t, t', lv, h1, h2⟩, r⟩ => ⟨⟨x, t, t', lv, h _ _ h1, h2⟩, TupsAre.mono h r⟩
  | [], _ :: _, h => h.elim
  | _ :: _, [], h => h.elim
theorem TupsAre.length {l : Led} : ∀ {as st}, TupsAre l as st → as.length = st.length
  | [], [], _ => rfl
  | a :: as, e :: st, ⟨_, r⟩ => by simp [TupsAre.length r]
  | [], _ :: _, h => h.elim
  | _ :: _, [], h => h.elim
/-- the stack of the search -/
structure StkIs (l : Led) (stl : Addr) (as : List Addr) (st : List Entry) : Prop where
  list : ∃ k, (stl, listOf (as.reverse.map Value.ref).toArray k) ∈ l
  tups : TupsAre l as st
  okq : ∀ e ∈ st, e.2.1 < 900 ∧ e.1.length ≤ 20
  len : st.length ≤ 40
/-- a turn of the walk along the string, in the ledger -/
theorem nv_step {w : World} {g h : Heap} {L stl D e it : Addr} {ob ot oe oi oe0 oi0 : Obj} {nw₁ : Led} {G : Ads} {b : Bld} {av : List Addr} {h₁ : Heap} {g₁ : Heap} {L₁ : Addr} (N : News g L h (put stl ob ((D, ot) :: put e oe (put it oi nw₁)))) (N₁ : News g₁ L₁ h₁ nw₁) (hD : ∀ p ∈ put e oe (put it oi nw₁), p.1 < D)
    (S : SrAt w nw₁ G b (stl :: av)) {os : Obj} (hs : (stl, os) ∈ nw₁) (hsc : os.cls ≠ .type "tuple") (he : (e, oe0) ∈ nw₁) (hec : oe0.cls ≠ .type "dict" ∧ oe0.cls ≠ .type "list" ∧ oe0.cls ≠ .type "tuple") (hi : (it, oi0) ∈ nw₁) (hic : oi0.cls ≠ .type "dict" ∧ oi0.cls ≠ .type "list" ∧ oi0.cls ≠ .type "tuple")
    (hse : stl ≠ e) (hsi : stl ≠ it) (hei : e ≠ it) (hsix : ∀ z ∈ G.six, z ≠ stl ∧ z ≠ e ∧ z ≠ it) :
    ∃ l, News g L h l ∧ (∀ p ∈ nw₁, p.1 ≠ stl → p.1 ≠ e → p.1 ≠ it → p ∈ l) ∧ (stl, ob) ∈ l ∧ (D, ot) ∈ l ∧ (e, oe) ∈ l ∧ (it, oi) ∈ l ∧ SrAt w l G b (stl :: av) ∧ (∀ a xs, (a, tupObj xs) ∈ nw₁ → (a, tupObj xs) ∈ l) := by
  have hsD : stl ≠ D := Nat.ne_of_lt (hD (stl, os) (mem_put_of (mem_put_of hs hsi) hse))
  have stay : ∀ p ∈ nw₁, p.1 ≠ stl → p.1 ≠ e → p.1 ≠ it → p ∈ put stl ob ((D, ot) :: put e oe (put it oi nw₁)) := fun p hp h1 h2 h3 => mem_put_of (.tail _ (mem_put_of (mem_put_of hp h3) h2)) h1
  refine y1_1 _ (ya8 N stay mem_put (mem_put_of (.head _) (Ne.symm hsD)) (mem_put_of (.tail _ mem_put) (Ne.symm hse)) (mem_put_of (.tail _ (mem_put_of mem_put (Ne.symm hei))) (Ne.symm hsi)) (S.mono fun p hp hz => ?_) (fun a xs hm => ?_))
  · rcases hz with hz | ⟨hc, hn⟩
    · (refine feed (hsix _ hz) ?_; refine x0_3 ?_; intro h1 h2 h3)
      exact stay p hp h1 h2 h3
    · obtain ⟨p1, p2⟩ := p
      refine stay _ hp (fun e' => hn (by simp only at e'; rw [e']; exact .head _)) (fun e' => ?_) (fun e' => ?_)
      · simp only at e' hc
        subst e'
        have := same_at N₁ hp he
        subst this
        exact hc.elim hec.1 hec.2.1
      · simp only at e' hc
        subst e'
        have := same_at N₁ hp hi
        subst this
        exact hc.elim hic.1 hic.2.1
  · refine stay _ hm (fun e' => ?_) (fun e' => ?_) (fun e' => ?_)
    · simp only at e'
      subst e'
      have := same_at N₁ hm hs
      exact hsc (by rw [← this])
    · simp only at e'
      subst e'
      have := same_at N₁ hm he
      exact hec.2.2 (by rw [← this])
    · simp only at e'
      subst e'
      have := same_at N₁ hm hi
      exact hic.2.2 (by rw [← this])
theorem StkIs.push {l l' : Led} {stl D : Addr} {as : List Addr} {st : List Entry} {k : Nat} {x : Str} {t t' : Tok} {lv : Value} {q lb : Nat} {pth : List Nat} (K : StkIs l stl as st) (ht : ∀ a xs, (a, tupObj xs) ∈ l → (a, tupObj xs) ∈ l') (hs : (stl, listOf ((as.reverse.map Value.ref).toArray.push (Value.ref D)) k) ∈ l')
    (hD : (D, tupObj #[.str x t, .int (q : Nat) t', lv]) ∈ l') (hx : x.cps.toList = pth) (hl : LbV lv lb) (hq : q < 900) (hp : pth.length ≤ 20) (hst : st.length < 40) : StkIs l' stl (D :: as) ((pth, q, lb) :: st) := by
  refine ⟨⟨k, by simpa using hs⟩, ⟨⟨x, t, t', lv, hD, hx, hl⟩, K.tups.mono ht⟩, fun e he => ?_, by simp only [List.length_cons]; lia⟩
  rcases List.mem_cons.mp he with rfl | he
  · exact ⟨hq, hp⟩
  · exact K.okq e he
theorem slice_take {x : Str} {p : Nat} (h : p ≤ x.cps.toList.length) : (Txt.slice x none (some (p : Int))).cps.toList = x.cps.toList.take p := by
  have e : Txt.slice x none (some (p : Int)) = _ := StrLaws.sliceText_to (x := x) (j := (p : Int)) ⟨by lia, by lia⟩
  rw [e]
  show List.take _ (List.drop 0 x.cps.toList) = _
  rw [List.drop_zero]
  congr 1
theorem slice_all {x : Str} {j : Int} (h : j = x.cps.toList.length) : (Txt.slice x none (some j)).cps.toList = x.cps.toList := by
  subst h
  rw [slice_take (Nat.le_refl _), List.take_length]
theorem nv_end {w : World} {g h : Heap} {L stl D it : Addr} {ob ot oi0 : Obj} {nw₁ l : Led} {G : Ads} {b : Bld} {av : List Addr} {h₁ : Heap} {g₁ : Heap} {L₁ : Addr} (N : News g L h (put stl ob ((D, ot) :: l))) (hl : ∀ p ∈ nw₁, p.1 ≠ it → p ∈ l) (N₁ : News g₁ L₁ h₁ nw₁) (hD : ∀ p ∈ l, p.1 < D)
    (S : SrAt w nw₁ G b (stl :: av)) {os : Obj} (hs : (stl, os) ∈ nw₁) (hsc : os.cls ≠ .type "tuple") (hi : (it, oi0) ∈ nw₁) (hic : oi0.cls ≠ .type "dict" ∧ oi0.cls ≠ .type "list" ∧ oi0.cls ≠ .type "tuple")
    (hsi : stl ≠ it) (hsix : ∀ z ∈ G.six, z ≠ stl ∧ z ≠ it) :
    ∃ l', News g L h l' ∧ (∀ p ∈ nw₁, p.1 ≠ stl → p.1 ≠ it → p ∈ l') ∧ (stl, ob) ∈ l' ∧ (D, ot) ∈ l' ∧ SrAt w l' G b (stl :: av) ∧ (∀ a xs, (a, tupObj xs) ∈ nw₁ → (a, tupObj xs) ∈ l') := by
  have hsD : stl ≠ D := Nat.ne_of_lt (hD (stl, os) (hl _ hs hsi))
  have stay : ∀ p ∈ nw₁, p.1 ≠ stl → p.1 ≠ it → p ∈ put stl ob ((D, ot) :: l) := fun p hp h1 h2 => mem_put_of (.tail _ (hl p hp h2)) h1
  refine y1_1 _ (ya6 N stay mem_put (mem_put_of (.head _) (Ne.symm hsD)) (S.mono fun p hp hz => ?_) (fun a xs hm => ?_))
  · rcases hz with hz | ⟨hc, hn⟩
    · (refine feed (hsix _ hz) ?_; refine x0_2 ?_; intro h1 h2)
      exact stay p hp h1 h2
    · obtain ⟨p1, p2⟩ := p
      refine stay _ hp (fun e' => hn (by simp only at e'; rw [e']; exact .head _)) (fun e' => ?_)
      simp only at e' hc
      subst e'
      have := same_at N₁ hp hi
      subst this
      exact hc.elim hic.1 hic.2.1
  · refine stay _ hm (fun e' => ?_) (fun e' => ?_)
    · simp only at e'
      subst e'
      have := same_at N₁ hm hs
      exact hsc (by rw [← this])
    · simp only at e'
      subst e'
      have := same_at N₁ hm hi
      exact hic.2.2 (by rw [← this])
theorem led_del {g h : Heap} {L it : Addr} {nw : Led} (N : News g L h (del it nw)) : ∃ l, News g L h l ∧ ∀ p ∈ nw, p.1 ≠ it → p ∈ l := ⟨_, N, fun p hp h => mem_del_of hp h⟩
theorem nv_push {w : World} {g h : Heap} {L stl D : Addr} {ob ot os : Obj} {nw₁ : Led} {G : Ads} {b : Bld} {av : List Addr} {h₁ : Heap} {g₁ : Heap} {L₁ : Addr} (N : News g L h (put stl ob ((D, ot) :: nw₁))) (N₁ : News g₁ L₁ h₁ nw₁) (hD : ∀ p ∈ nw₁, p.1 < D)
    (S : SrAt w nw₁ G b (stl :: av)) (hs : (stl, os) ∈ nw₁) (hsc : os.cls ≠ .type "tuple") (hsix : ∀ z ∈ G.six, z ≠ stl) :
    ∃ l', News g L h l' ∧ (∀ p ∈ nw₁, p.1 ≠ stl → p ∈ l') ∧ (stl, ob) ∈ l' ∧ (D, ot) ∈ l' ∧ SrAt w l' G b (stl :: av) ∧ (∀ a xs, (a, tupObj xs) ∈ nw₁ → (a, tupObj xs) ∈ l') := by
  have hsD : stl ≠ D := Nat.ne_of_lt (hD (stl, os) hs)
  have stay : ∀ p ∈ nw₁, p.1 ≠ stl → p ∈ put stl ob ((D, ot) :: nw₁) := fun p hp h1 => mem_put_of (.tail _ hp) h1
  refine y1_1 _ (ya6 N stay mem_put (mem_put_of (.head _) (Ne.symm hsD)) (S.mono fun p hp hz => stay p hp ?_) (fun a xs hm => stay _ hm fun e' => ?_))
  · rcases hz with hz | ⟨hc, hn⟩
    · exact hsix _ hz
    · exact fun e => hn (by rw [e]; exact .head _)
  · simp only at e'
    subst e'
    have := same_at N₁ hm hs
    exact hsc (by rw [← this])
end NV2
section NVS
local macro_rules | `(tactic| walk_at $s:str) => do
  let k := Lean.Syntax.mkStrLit ("NVS:" ++ s.getString)
  `(tactic| k_extra $k)
example : True := by
  (k_with "NVS:m_enterS" => k_dflt (refine' code_defG (by k_asm) (by k_asm) (by k_asm) (by k_asm) (by k_asm) (by k_asm) (by k_asm) (by k_asm) (by first | assumption | exact KtsTurn.refl) (by assumption) (by assumption) (by assumption) (by k_is) (by k_is) (by k_room) (by first | exact BindsTo.of_eq rfl | exact binds_K (by k_in) rfl (by k_is) rfl rfl rfl) (by exact locs rfl) ?_ (by exact rfl) (by exact rfl) (by exact rfl) (by decide)))
  (k_with "NVS:exec While" => refine stop_of ?_)
  (k_with "NVS:exec For" => refine stop_of ?_)
  (k_with "NVS:call ref" => k_here; (with_reducible show wpAny _ _ (call (Value.ref 236) _) _ _ _); refine wpAny_call ?_; k_dflt (refine' start_spec (by walk_at "m_cx") (by k_asm) (by k_asm) (by walk_at "m_hh") (by with_reducible assumption) ?_); intro _ _ _ _ _; dsimp only)
  (k_with "NVS:call ref" => k_here; (with_reducible show wpAny _ _ (call (Value.ref 271) _) _ _ _); refine stop_of ?_)
  (k_with "NVS:call ref" => k_here; (with_reducible show wpAny _ _ (call (Value.ref 286) _ _) _ _ _); refine stop_of ?_)
  (k_with "NVS:call ref" => k_here; (with_reducible show wpAny _ _ (call (Value.ref 264) _) _ _ _); refine stop_of ?_)
  (k_with "NVS:getMethod ref" => k_here; (with_reducible show wpAny _ _ (getMethod (Value.ref _) (Str.ofString "append") _) _ _ _); k_dflt (refine' kl_method (by k_asm) (by k_mem) PySem.F.slot_list_append PySem.F.type_list_append ?_))
  (k_with "NVS:call builtin:list.append" => k_here; (with_reducible show wpAny _ _ (call (Value.builtin "list.append") [Value.ref _, _]) _ _ _); k_dflt (refine' append_M (by k_asm) (by k_asm) (by k_mem) (by with_reducible assumption) ?_); intro _ _ _)
  (k_with "NVS:call type:enumerate" => k_here; refine stop_of ?_)
  trivial
noncomputable def wsum (ans : Option (List Nat)) (st : List Entry) : Nat := (st.map fun e => 1 + ((match ans with | none => 0 | some x => x.length) + 1 - e.1.length)).sum
example : True := by
  (k_with "NVS:assign Tuple" => k_here; refine stop_of ?_)
  (k_with "NVS:truthy ref" => k_here; refine stop_of ?_)
  (k_with "NVS:getMethod ref" => k_here; (with_reducible show wpAny _ _ (getMethod (Value.ref _) (Str.ofString "pop") _) _ _ _); k_dflt (refine' kl_method (by k_asm) (by k_mem) PySem.F.slot_list_pop PySem.F.type_list_pop ?_))
  (k_with "NVS:call builtin:list.pop" => k_here; (with_reducible show wpAny _ _ (call (Value.builtin "list.pop") [Value.ref _]) _ _ _); k_dflt (refine' pop_M (by k_asm) (by k_asm) (by k_mem) (by with_reducible assumption) ?_); intro _ _ _)
  trivial
noncomputable def ForI (w : World) (nw : Led) (G : Ads) (b : Bld) (av : List Addr) (P : List Nat → Prop) (str : Str) (ts : Tok) (e it stl : Addr) (n : Nat) (x : Nat × Tok × Nat × Tok) (l : Led) : Prop :=
  ∃ i old oi as st, x.2.2.1 = i - 1 ∧ n = str.cps.toList.length - i ∧ i ≤ str.cps.toList.length ∧ (e, enumIt it (i : Nat) old) ∈ l ∧ (it, oi) ∈ l ∧ StrIt oi str ts i ∧ SrAt w l G b (stl :: av) ∧ StkIs l stl as st ∧ st.length = i ∧ x.1 < 900 ∧
    b.aut.OrdS st ∧ b.aut.Below st (str.cps.toList.take i) ∧ (∀ y, b.aut.Want st (str.cps.toList.take i) (some x.1) (str.cps.toList.drop i) y ↔ P y) ∧ ∀ p ∈ nw, p.1 ≠ G.ol → p ∈ l
noncomputable def ForD (w : World) (nw : Led) (G : Ads) (b : Bld) (av : List Addr) (str : Str) (ans : Option (List Nat)) (stl : Addr) (v : Value) (l : Led) : Prop :=
  ∃ o as st, StV o v ∧ SrAt w l G b (stl :: av) ∧ StkIs l stl as st ∧ b.aut.OrdS st ∧ ((finO b o = true ∧ ans = some str.cps.toList) ∨ (finO b o = false ∧ IsLeast (b.aut.CandS st) ans)) ∧ ∀ p ∈ nw, p.1 ≠ G.ol → p ∈ l
noncomputable def SearchIs (b : Bld) (s : List Nat) (ans : Option (List Nat)) : Prop := IsLeast (fun x => b.aut.Acc 0 x ∧ ¬ x < s) ans
theorem nvs_spec : ∀ {w : World} {A A₀ : Around} {base : Heap} {outer : List Env} {s : Shared} {h₀ : Heap} {L : Addr} {m : Str → Option Value} {nw : Led} (C : CxG w A A₀ base outer h₀ L 3) (F : Fr h₀ L s.heap m) (N : News h₀ L s.heap nw)
    (hh : A.handled = none) {R : Result → Shared → Prop} {G : Ads} {b : Bld} {av : List Addr} (S : SrAt w nw G b av) (hav : ∀ z ∈ av, ∃ o, (z, o) ∈ nw) (good : b.aut.Good) (hsm : ∀ q, (b.T q).length ≤ 40) (htg : b.Tg 900) {str : Str} {ts : Tok} (hs0 : 0 < str.cps.toList.length) (hs1 : str.cps.toList.length ≤ 20) (hs2 : ∀ c ∈ str.cps.toList, c < 128)
    {ans : Option (List Nat)} (hans : SearchIs b str.cps.toList ans) (hal : ∀ x, ans = some x → x.length ≤ 20)
    (_h : ∀ h₀' h' tk' v nw', TurnS A₀ base outer h₀ h₀' → Fr h₀' L h' m → News h₀' L h' nw' → (∀ p ∈ nw, p.1 ≠ G.ol → p ∈ nw') → SrAt w nw' G b av → (v = .none ∧ ans = none) ∨ (∃ x t, v = .str x t ∧ ans = some x.cps.toList) → R (.ok (.ret v)) ⟨h', s.gens, s.drawn, tk', s.os⟩),
    codeAny (model prog w) A (.call (.ref 279) ⟨[.ref G.x, .str str ts], []⟩) R s := by
  intro w A A₀ base outer s h₀ L m nw
  refine CxG.el ?_
  intro XB lo mean mg mb TB B D env0 hA hef hck hdep hun F N hh R G b av S hav good hsm htg str ts hs0 hs1 hs2 ans hans hal h
  have X₀ := XB.keeps B.stays
  have T := TB.keeps B.stays
  (refine feed (S.dfa) ?_; refine x0_2 ?_; intro d1; refine x11_1 ?_; intro g1 g2 g3 g4 g5 u1 u2 u3 u4 u5 un d2)
  have hdfa := S.dfa
  have hsl1 : str.length ≤ 64 := by
    show str.cps.size ≤ 64
    rw [← Array.length_toList]; lia
  refine fillIt ?_
  k_fill
  intro _
  w_strict (
    walk_at "m_enterS"
    intro g' L' h' FG' F' N' B' X' T' D'
    (try dsimp only [b11_7, b11_7s])
    k_fold
    refine fr_open [(Str.ofString "self", .ref G.x), (Str.ofString "string", .str str ts), (Str.ofString "asbytes", .bool false)] F' (by walk_at "m_names") ?_
    clear F'
    intro m0 F'
    dsimp only [over] at F'
    k_steps
    refine Stop.out ?_
    refine wpAny_For ?_
    k_steps
    refine Stop.out ?_
    rename_i stl hq1 hl0 hq2 hq3 F₀ N₀
    refine enum_str_M (by
      refine Array.all_eq_true'.mpr fun x hx => ?_
      have := hs2 x (by simpa using hx)
      simpa using this) (by assumption) (by assumption) ?_
    intro h₁ e it oi F₁ N₁ hal1 hal2 hite hIt
    refine wpAny_pyIter_enum (N₁ _ (.head _)).1 ?_
    have hfstl : Fresh nw stl := fun p hp => Nat.ne_of_lt (hl0 p hp)
    have hi0 : stl < it := hal1.1
    have hi1 : ∀ p ∈ nw, p.1 ≠ it ∧ p.1 ≠ e := fun p hp => ⟨allLt_ne hal1 p (.tail _ hp), allLt_ne hal2 p (.tail _ hp)⟩
    have hsix : ∀ z ∈ G.six, z ≠ stl ∧ z ≠ e ∧ z ≠ it := fun z hz => by
      (refine feed (S.there z hz) ?_; refine x1_1 ?_; intro o ho)
      exact ⟨hfstl _ ho, (hi1 _ ho).2, (hi1 _ ho).1⟩
    refine For_X (α := Nat × Tok × Nat × Tok) (β := Value) (fun st => [(Str.ofString "state", .int st.1 st.2.1), (Str.ofString "i", .int st.2.2.1 st.2.2.2)]) (fun y => y ∈ [Str.ofString "label"]) (ForI w nw G b av (fun x => b.aut.Acc 0 x ∧ ¬ x < str.cps.toList) str ts e it stl)
      (fun v => [(Str.ofString "state", v)]) (fun y => y ∈ [Str.ofString "i", "label"]) (ForD w nw G b av str ans stl) (0, ?tk0, 0, ?tk1) (str.cps.toList.length) ⟨.refl, B', D'⟩ F₁ N₁ ?hm ?hJ ?turn ?after
    case hm => walk_at "m_names"
    case hJ =>
      refine y5_1 0 .none oi ([]) ([]) (ya14 rfl rfl (Nat.zero_le _) (.head _) (.tail _ (.head _)) hIt ((S.more hfstl).mono fun p hp _ => .tail _ (.tail _ (.tail _ hp))) (⟨⟨0, .tail _ (.tail _ (.head _))⟩, trivial, fun _ h => (nomatch h), Nat.zero_le _⟩) rfl (by show 0 < 900; lia) .nil (fun y ⟨_, h, _⟩ => (nomatch h)) (fun y => ?_) (fun p hp _ => .tail _ (.tail _ (.tail _ hp))))
      constructor
      · rintro (⟨_, h, _⟩ | ⟨q', t, h1, h2, h3, h4⟩)
        · cases h
        · cases h1
          rw [h2]
          exact ⟨h3, h4⟩
      · (refine x0_2 ?_; intro h1 h2)
        exact .inr ⟨0, y, rfl, rfl, h1, h2⟩
    case turn =>
      intro KW KX hKW hKX
      (intro n; rintro ⟨q, tq, iv, ti⟩; intro g₁ m₁ nw₁ h₂ tk₂; refine TurnS.el ?_; intro tT tB tD; intro F₂ N₂ hn₁ hm₁; refine x5_1 ?_; intro i old oi' as st; refine x0_14 ?_; intro hiv; intro zz9; subst zz9; intro hil he hit hIt' S₂ K₂ hst hq9 hO hBl hW hkeep)
      have XX := XB.keeps tB.stays
      have TT := TB.keeps tB.stays
      have hN : Stop (News g₁ L' h₂ nw₁) := Stop.out N₂
      refine enum_next hh rfl rfl rfl F₂ N₂ he hit hIt' (by simpa using hil) ?_ ?_
      · intro c u u' h₃ tk₃ oi₃ old₃ hc F₃ N₃ hIt₃
        refine frame_at (nms := [(Str.ofString "label", .str (ch c) u), (Str.ofString "i", .int (i : Nat) u'), (Str.ofString "state", .int q tq)]) (nmo := [(Str.ofString "self", .ref G.x), (Str.ofString "string", .str str ts), (Str.ofString "stack", .ref stl)]) (ls := []) [Str.ofString "label", "i", "state"] [Str.ofString "self", "string", "stack"] F₃ (by
          intro p hp
          simp only [List.mem_cons, List.not_mem_nil, or_false] at hp
          rcases hp with rfl | rfl | rfl
          · rfl
          · rfl
          · exact ((if_neg (show ¬ Str.ofString "state" = Str.ofString "label" by decide)).trans (if_neg (show ¬ Str.ofString "state" = Str.ofString "i" by decide))).trans (hn₁ _ (.head _))) (fun y _ hyn => by
            have h1 := hyn _ (.head _)
            have h2 := hyn _ (.tail _ (.head _))
            have h3 := hyn _ (.tail _ (.tail _ (.head _)))
            refine ((if_neg h1).trans (if_neg h2)).trans (hm₁ y ?_ ?_)
            · intro hm
              simp only [List.mem_cons, List.not_mem_nil, or_false] at hm
              exact h1 hm
            · intro p hp
              simp only [List.mem_cons, List.not_mem_nil, or_false] at hp
              rcases hp with rfl | rfl
              · exact h3
              · exact h2) (by walk_at "m_names") rfl rfl (by decide) ?_
        clear F₃
        intro mA F₃ hmA
        dsimp only [over] at F₃
        (refine feed (K₂.list) ?_; refine x1_1 ?_; intro k hstl)
        have hit2 : stl ≠ it := Nat.ne_of_lt hi0
        have hie2 : stl ≠ e := Nat.ne_of_lt (Nat.lt_trans hi0 hite)
        have hasl := K₂.tups.length
        have hz1 : (as.reverse.map Value.ref).toArray.size ≤ sizeLine := by
          have := sizeLine_eq
          have := K₂.len
          simp only [List.size_toArray, List.length_map, List.length_reverse]
          lia
        have hd2 := S₂.dfa
        (refine feed (S₂.dfa) ?_; refine x0_2 ?_; intro d1'; refine x11_1 ?_; intro g1' g2' g3' g4' g5' u1' u2' u3' u4' u5' un' d2')
        have hxe : G.x ≠ e := ne_of_cls (stop_of hN) d1' he (by simp)
        have hxi : G.x ≠ it := ne_of_cls (stop_of hN) d1' hit (by rw [hIt'.1]; simp)
        have hde : G.dx ≠ e := ne_of_cls (stop_of hN) d2' he (by simp)
        have hdi : G.dx ≠ it := ne_of_cls (stop_of hN) d2' hit (by rw [hIt'.1]; simp)
        have hxs : G.x ≠ stl := ne_of_cls (stop_of hN) d1' hstl (by simp)
        have hds : G.dx ≠ stl := ne_of_cls (stop_of hN) d2' hstl (by simp)
        have hN3 : Stop (News g₁ L' h₃ (put e (enumIt it ((i : Int) + 1) old₃) (put it oi₃ nw₁))) := Stop.out N₃
        k_steps
        refine Stop.out ?_
        rename (News _ _ _ (put stl _ _)) => N₄
        rename (∀ p : Addr × Obj, p ∈ put e _ _ → p.1 < _) => hD
        (refine feed (nv_step N₄ (stop_of hN) hD S₂ hstl (by simp) he ⟨by simp, by simp, by simp⟩ hit (by rw [hIt'.1]; exact ⟨by simp, by simp, by simp⟩) hie2 hit2 (Nat.ne_of_gt hite) hsix) ?_; refine x1_1 ?_; intro l₄; refine x0_8 ?_; intro N₅ st4 hs4 hD4 he4 hi4 S₄ ht4)
        have hic : str.cps.toList[i]? = some c := by simpa using hc
        have hil2 := (List.getElem?_eq_some_iff.mp hic).1
        have hc128 : c < 128 := hs2 c (List.mem_of_getElem? hic)
        have K₄ : StkIs l₄ stl _ ((str.cps.toList.take i, q, c + 1) :: st) := K₂.push ht4 hs4 hD4 (slice_take hil) (.inr ⟨c, u, rfl, by lia, rfl⟩) hq9 (by rw [List.length_take]; lia) (by lia)
        have hdrop : str.cps.toList.drop i = c :: str.cps.toList.drop (i + 1) := by
          rw [List.drop_eq_getElem_cons hil2]
          rw [(List.getElem?_eq_some_iff.mp hic).2]
        have htake : str.cps.toList.take (i + 1) = str.cps.toList.take i ++ [c] := by rw [List.take_add_one, hic]; rfl
        (refine feed (walk_step good (q := q) (c := c) (rest := str.cps.toList.drop (i + 1)) hO hBl) ?_; refine x0_3 ?_; intro w1 w2 w3)
        rw [← htake] at w1 w3
        have hW' : ∀ y, b.aut.Want ((str.cps.toList.take i, q, c + 1) :: st) (str.cps.toList.take (i + 1)) (b.aut.next q c) (str.cps.toList.drop (i + 1)) y ↔ b.aut.Acc 0 y ∧ ¬ y < str.cps.toList := fun y => by
          rw [← w1, ← hdrop]; exact hW y
        have hkeep' : ∀ p ∈ nw, p.1 ≠ G.ol → p ∈ l₄ := fun p hp hne => st4 p (hkeep p hp hne) (hfstl p hp) (hi1 p hp).2 (hi1 p hp).1
        have hCx : Cx w (A.deeper (envOf (Str.ofString "DFA.next_valid_string") s11_7 L' 279 (.ref 278))) g₁ L' 0 := ⟨XX, ⟨_, _, _, _, TT⟩, ⟨_, _, _, _, tB, Around.frames_deeper hA, rfl, rfl⟩, (by show A.depth + 1 + 0 ≤ 360; lia), (by show A.units + 3 + 6 * 0 ≤ 400; lia)⟩
        refine wpAny_call ?_
        refine next_st (s := ⟨_, _, _, _, _⟩) hCx (by assumption) N₅ hh S₄ ?_
        intro h₅ tk₅ v F₅ N₆ hv
        dsimp only
        rcases hv with hv | hv
        · (revert hv; refine x0_2 ?_; intro hnx; intro zz9; subst zz9)
          k_steps
          refine hKW _ _ _ ?_
          refine WX.intro .none ⟨tT, tB, tD⟩ (by assumption) (by assumption) ?hn5 (fun y hy hyn => ?_) ⟨none, _, _, .inl ⟨rfl, rfl⟩, S₄, K₄, w2, .inr ⟨rfl, ?_⟩, hkeep'⟩
          case hn5 => walk_at "m_names"
          · have y0 := hyn _ (.head _)
            simp only [List.mem_cons, List.not_mem_nil, or_false, not_or] at hy
            exact (if_neg y0).trans (hmA y (fun hm => nomatch hm) (by simp [y0, hy.1, hy.2]))
          · refine isLeast_congr (fun y => ?_) hans
            rw [← hW' y, hnx]
            exact walk_break y
        · (revert hv; refine x2_1 ?_; intro q' t'; refine x0_2 ?_; intro hnx; intro zz9; subst zz9)
          (refine feed (htg q (c, q') (Aut.next_some hnx)) ?_; refine x0_2 ?_; intro hq0 hq1)
          have hq0' : (0 : Int) < (q' : Int) := by lia
          k_steps
          · refine hKW _ _ _ ?_
            refine WPost.intro (q', t', i, u') (str.cps.toList.length - (i + 1)) ⟨tT, tB, tD⟩ (by assumption) (by assumption) ?hn6 (fun y hy hyn => ?_) (by lia) ⟨i + 1, old₃, oi₃, _, _, rfl, rfl, hil2, he4, hi4, hIt₃, S₄, K₄, by simp [hst], hq1, w2, w3, fun y => by rw [← hnx]; exact hW' y, hkeep'⟩
            case hn6 => walk_at "m_names"
            have y0 := hyn _ (.head _)
            have y1 := hyn _ (.tail _ (.head _))
            simp only [List.mem_cons, List.not_mem_nil, or_false, not_or] at hy
            exact (if_neg y0).trans (hmA y (fun hm => nomatch hm) (by simp [y0, y1, hy]))
          · exfalso; lia
      · intro h₃ hnone F₃ N₃
        have hin : i = str.cps.toList.length := by
          have : str.cps.toList[i]? = none := by simpa using hnone
          have := List.getElem?_eq_none_iff.mp this
          lia
        refine frame_at (nms := [(Str.ofString "state", .int q tq), (Str.ofString "i", .int iv ti)]) (nmo := [(Str.ofString "self", .ref G.x), (Str.ofString "string", .str str ts), (Str.ofString "stack", .ref stl)]) (ls := [Str.ofString "label"]) [Str.ofString "state", "i"] [Str.ofString "self", "string", "stack"] F₃ hn₁ hm₁ (by walk_at "m_names") rfl rfl (by decide) ?_
        clear F₃
        intro mB F₃ hmB
        dsimp only [over] at F₃
        (refine feed (K₂.list) ?_; refine x1_1 ?_; intro k hstl)
        have hit2 : stl ≠ it := Nat.ne_of_lt hi0
        have hie2 : stl ≠ e := Nat.ne_of_lt (Nat.lt_trans hi0 hite)
        have hasl := K₂.tups.length
        have hz1 : (as.reverse.map Value.ref).toArray.size ≤ sizeLine := by
          have := sizeLine_eq
          have := K₂.len
          simp only [List.size_toArray, List.length_map, List.length_reverse]
          lia
        (refine feed (led_del N₃) ?_; refine x1_1 ?_; intro l₃; refine x0_2 ?_; intro N₄ st3)
        clear N₃
        have hstl3 := st3 _ hstl hit2
        have hK : stl = stl := rfl
        k_steps
        rename (News _ _ _ (put stl _ _)) => N₅
        rename (∀ p : Addr × Obj, p ∈ l₃ → p.1 < _) => hD
        (refine feed (nv_end N₅ st3 (stop_of hN) hD S₂ hstl (by simp) hit (by rw [hIt'.1]; exact ⟨by simp, by simp, by simp⟩) hit2 (fun z hz => ⟨(hsix z hz).1, (hsix z hz).2.2⟩)) ?_; refine x1_1 ?_; intro l₄; refine x0_6 ?_; intro N₆ st4 hs4 hD4 S₄ ht4)
        have K₄ : StkIs l₄ stl _ ((str.cps.toList, q, 0) :: st) := K₂.push ht4 hs4 hD4 (slice_all (by simp only at hiv; lia)) (.inl ⟨rfl, rfl⟩) hq9 (by lia) (by lia)
        have htl : str.cps.toList.take i = str.cps.toList := by rw [hin, List.take_length]
        have hdl : str.cps.toList.drop i = [] := by rw [hin, List.drop_length]
        rw [htl] at hBl hW
        rw [hdl] at hW
        (refine feed (walk_end (A := b.aut) (q := q) hO hBl) ?_; refine x0_2 ?_; intro w1 w2)
        have hkeep' : ∀ p ∈ nw, p.1 ≠ G.ol → p ∈ l₄ := fun p hp hne => st4 p (hkeep p hp hne) (hfstl p hp) (hi1 p hp).1
        refine hKX _ _ ?_
        refine WX.intro (.int q tq) ⟨tT, tB, tD⟩ (by assumption) N₆ ?hn7 (fun y hy hyn => ?_) ⟨some q, _, _, .inr ⟨q, tq, rfl, rfl⟩, S₄, K₄, w2, ?_, hkeep'⟩
        case hn7 => walk_at "m_names"
        · have y0 := hyn _ (.head _)
          simp only [List.mem_cons, List.not_mem_nil, or_false, not_or] at hy
          exact hmB y (by simp [hy.2]) (by simp [y0, hy.1])
        · cases hf : b.F q with
          | true =>
            refine .inl ⟨hf, ?_⟩
            refine isLeast_unique (P := fun x => b.aut.Acc 0 x ∧ ¬ x < str.cps.toList) hans ⟨?_, fun x hx => hx.2⟩
            exact (hW _).1 ((w1 _).2 (.inl ⟨rfl, hf⟩))
          | false =>
            refine .inr ⟨hf, isLeast_congr (fun y => ?_) hans⟩
            refine (hW y).symm.trans ((w1 y).trans ?_)
            constructor
            · rintro (⟨_, h⟩ | h)
              · rw [show b.aut.fin q = b.F q from rfl, hf] at h; cases h
              · exact h
            · exact .inr
    case after =>
      (intro g₁ h₂ tk₂ m₁ nw₁ v; refine TurnS.el ?_; intro tT tB tD; intro F₂ N₂ hn₁ hm₁; refine x3_1 ?_; intro o as st; refine x0_6 ?_; intro hv S₂ K₂ hO hans2 hkeep)
      have XX := XB.keeps tB.stays
      have TT := TB.keeps tB.stays
      refine frame_at (nmo := [(Str.ofString "self", .ref G.x), (Str.ofString "string", .str str ts), (Str.ofString "stack", .ref stl), (Str.ofString "asbytes", .bool false)]) (ls := [Str.ofString "i", "label"]) [Str.ofString "state"] [Str.ofString "self", "string", "stack", "asbytes"] F₂ hn₁ hm₁ (by walk_at "m_names") rfl rfl (by decide) ?_
      clear F₂
      intro mC F₂ hmC
      dsimp only [over] at F₂
      (refine feed (S₂.dfa) ?_; refine x0_2 ?_; intro d1'; refine x11_1 ?_; intro g1' g2' g3' g4' g5' u1' u2' u3' u4' u5' un' d2')
      have hN2 : Stop (News g₁ L' h₂ nw₁) := Stop.out N₂
      have hCx : Cx w (A.deeper (envOf (Str.ofString "DFA.next_valid_string") s11_7 L' 279 (.ref 278))) g₁ L' 0 := ⟨XX, ⟨_, _, _, _, TT⟩, ⟨_, _, _, _, tB, Around.frames_deeper hA, rfl, rfl⟩, (by show A.depth + 1 + 0 ≤ 360; lia), (by show A.units + 3 + 6 * 0 ≤ 400; lia)⟩
      k_steps
      refine Stop.out ?_
      refine wpAny_call ?_
      refine final_st (s := ⟨_, _, _, _, _⟩) hCx (by assumption) (stop_of hN2) hh S₂ hv ?_
      intro h₃ tk₃ F₃ N₃
      rcases hans2 with hans2 | hans2
      · (revert hans2; refine x0_2 ?_; intro hfin hans2)
        rw [hfin]
        dsimp only
        k_steps
        exact h _ _ _ _ _ ⟨by assumption, by assumption, by assumption⟩ (by assumption) (by assumption) hkeep (S₂.less fun z hz => .tail _ hz) (.inr ⟨str, ts, rfl, hans2⟩)
      · (revert hans2; refine x0_2 ?_; intro hfin hans2)
        rw [hfin]
        dsimp only
        k_steps
        refine Stop.out ?_
        refine While_S (α := Unit) (fun _ => []) (fun y => y ∈ [Str.ofString "path", "state", "label"]) (fun n _ l => ∃ as st, n = wsum ans st ∧ SrAt w l G b (stl :: av) ∧ StkIs l stl as st ∧ b.aut.OrdS st ∧ IsLeast (b.aut.CandS st) ans ∧ ∀ p ∈ nw, p.1 ≠ G.ol → p ∈ l) () _ ⟨.refl, tB, tD⟩ (by assumption) (by assumption) (fun _ hp => nomatch hp) ⟨as, st, rfl, S₂, K₂, hO, hans2, hkeep⟩ ?_
        intro KW2 hKW2
        (intro n _ g₂ m₂ nw₂ h₄ tk₄; refine TurnS.el ?_; intro tT2 tB2 tD2; intro F₄ N₄; intro zz9; clear zz9; intro hm₂; refine x2_1 ?_; intro as st; refine x0_6 ?_; intro zz9; subst zz9; intro S₄ K₄ hO4 hans4 hkeep4)
        have XX2 := XB.keeps tB2.stays
        have TT2 := TB.keeps tB2.stays
        have tT3 := tT.trans tT2
        have hN4 : Stop (News g₂ L' h₄ nw₂) := Stop.out N₄
        refine frame_at (nms := []) (nmo := [(Str.ofString "self", .ref G.x), (Str.ofString "stack", .ref stl), (Str.ofString "asbytes", .bool false)]) (ls := [Str.ofString "path", "state", "label"]) [] [Str.ofString "self", "stack", "asbytes"] F₄ (fun _ hp => nomatch hp) hm₂ (by walk_at "m_names") rfl rfl (by decide) ?_
        clear F₄
        intro mD F₄ hmD
        dsimp only [over] at F₄
        (refine feed (K₄.list) ?_; refine x1_1 ?_; intro k hstl)
        have hz1 : (as.reverse.map Value.ref).length < 1000 := by
          have := K₄.len
          have := K₄.tups.length
          simp only [List.length_map, List.length_reverse]
          lia
        (refine feed (S₄.dfa) ?_; refine x0_2 ?_; intro d1''; refine x11_1 ?_; intro g1'' g2'' g3'' g4'' g5'' u1'' u2'' u3'' u4'' u5'' un'' d2'')
        k_steps
        refine Stop.out ?_
        refine truthy_list_M (by assumption) hstl hz1 ?_
        intro tk₅
        cases as with
        | nil =>
          have e : decide (List.map Value.ref (List.reverse ([] : List Addr)) ≠ []) = false := rfl
          rw [e]
          k_steps
          cases st with
          | cons _ _ => exact K₄.tups.elim
          | nil =>
          refine h _ _ _ _ nw₂ ⟨by assumption, by assumption, by assumption⟩ (by assumption) (by assumption) hkeep4 (S₄.less fun z hz => .tail _ hz) (.inl ⟨rfl, ?_⟩)
          cases ans with
          | none => rfl
          | some x => (revert hans4; refine x0_2 ?_; refine x1_1 ?_; intro _; refine x0_2 ?_; intro h _; intro _); cases h
        | cons ad as =>
          cases st with
          | nil => exact K₄.tups.elim
          | cons en st =>
          have e : decide (List.map Value.ref (List.reverse (ad :: as)) ≠ []) = true := by simp
          rw [e]
          rw [List.reverse_cons, List.map_append] at hstl
          simp only [List.map_cons, List.map_nil] at hstl
          have hz2 : (as.reverse.map Value.ref).length + 1 ≤ sizeLine := by
            have := sizeLine_eq
            simp only [List.length_map, List.length_reverse, List.length_cons] at hz1 ⊢
            lia
          (refine feed (K₄.tups) ?_; refine x0_2 ?_; refine x4_1 ?_; intro x tx t' lv; refine x0_3 ?_; intro hat hx hlv; intro hts)
          k_steps
          refine Stop.out ?_
          rename (News _ _ _ (put stl _ _)) => N₅
          have hast : ad ≠ stl := ne_of_cls (stop_of hN4) hat hstl (by simp)
          have hat2 := mem_put_of (a := stl) (o := listOf (List.map Value.ref as.reverse).toArray (k + 1)) hat hast
          refine assign_triple hh rfl rfl rfl rfl ⟨_, (N₅ _ hat2).1, rfl, _, rfl⟩ (by assumption) N₅ ?_
          intro h₅ tk₆ F₅ N₆
          have hxs : G.x ≠ stl := ne_of_cls (stop_of hN4) d1'' hstl (by simp)
          have hds : G.dx ≠ stl := ne_of_cls (stop_of hN4) d2'' hstl (by simp)
          dsimp only
          k_steps
          have hkE := K₄.okq en (.head _)
          have stay5 : ∀ p ∈ nw₂, p.1 ≠ stl → p ∈ put stl (listOf (List.map Value.ref as.reverse).toArray (k + 1)) nw₂ := fun p hp hne => mem_put_of hp hne
          have S₅ : SrAt w (put stl (listOf (List.map Value.ref as.reverse).toArray (k + 1)) nw₂) G b (stl :: av) := S₄.mono fun p hp hz => stay5 p hp (hz.elim (fun h => (hsix _ h).1) fun h e => h.2 (by rw [e]; exact .head _))
          have hav5 : ∀ z ∈ stl :: av, ∃ o, (z, o) ∈ put stl (listOf (List.map Value.ref as.reverse).toArray (k + 1)) nw₂ := fun z hz => by
            rcases List.mem_cons.mp hz with rfl | hz
            · exact y1_1 _ mem_put
            · by_cases e : z = G.ol
              · exact S₅.there z (by rw [e]; simp [Ads.six])
              · (refine feed (hav z hz) ?_; refine x1_1 ?_; intro o ho)
                exact y1_1 o (stay5 _ (hkeep4 _ ho e) (hfstl _ ho))
          have hC : CxS w (A.deeper (envOf (Str.ofString "DFA.next_valid_string") s11_7 L' 279 (.ref 278))) A base (env0 :: outer) g₂ L' 0 := ⟨XB, ⟨_, _, _, _, TB⟩, tB2, tD2, ⟨_, _, _, _, Around.frames_deeper hA, rfl⟩, (by show A.depth + 1 + 0 ≤ 360; lia), (by show A.units + 3 + 6 * 0 ≤ 400; lia)⟩
          refine Stop.out ?_
          refine wpAny_call ?_
          refine (show codeAny _ _ (.call (.ref 286) ⟨[.ref G.x, .int (en.2.1 : Nat) t', lv], [(Str.ofString "asbytes", .bool false)]⟩) _ _ from ?_)
          refine edge_spec (s := ⟨_, _, _, _, _⟩) hC (by assumption) N₆ hh S₅ hav5 good hsm hkE.1 hlv ?_
          rintro g₃ h₆ tk₇ v₃ nw₃ ⟨tT5, tB5, tD5⟩ F₆ N₇ K₇ S₇ hv₃
          have XX5 := XB.keeps tB5.stays
          have TT5 := TB.keeps tB5.stays
          have hN7 : Stop (News g₃ L' h₆ nw₃) := Stop.out N₇
          have st7 : ∀ p ∈ nw₂, p.1 ≠ stl → p.1 ≠ G.ol → p ∈ nw₃ := fun p hp h1 h2 => K₇ p (stay5 p hp h1) (by simpa using h2)
          have hsol : stl ≠ G.ol := fun e => (hsix G.ol (by simp [Ads.six])).1 e.symm
          have hstl7 : (stl, listOf (List.map Value.ref as.reverse).toArray (k + 1)) ∈ nw₃ := K₇ _ mem_put (by simpa using hsol)
          have htup7 : ∀ z xs, (z, tupObj xs) ∈ nw₂ → (z, tupObj xs) ∈ nw₃ := fun z xs hm => by
            (refine feed (S₄.ol) ?_; refine x2_1 ?_; intro oo _; refine x0_3 ?_; intro h1 h2 _)
            refine st7 _ hm (ne_of_cls (stop_of hN4) hm hstl (by simp)) (ne_of_cls (stop_of hN4) hm h1 ?_)
            (revert h2; refine x2_1 ?_; intro _ _; refine x0_2 ?_; intro hex _)
            rw [hex.1]; simp
          have hkeep7 : ∀ p ∈ nw, p.1 ≠ G.ol → p ∈ nw₃ := fun p hp hne => st7 p (hkeep4 p hp hne) (hfstl p hp) hne
          have K₈ : StkIs nw₃ stl as st := ⟨⟨k + 1, hstl7⟩, hts.mono htup7, fun e he => K₄.okq e (.tail _ he), Nat.le_of_succ_le K₄.len⟩
          (refine feed (S₇.dfa) ?_; refine x0_2 ?_; intro d1a; refine x11_1 ?_; intro g1a g2a g3a g4a g5a u1a u2a u3a u4a u5a una d2a)
          have tT6 := (tT.trans tT2).trans tT5
          have hO5 := (List.pairwise_cons.mp hO4).2
          dsimp only
          rcases hv₃ with hv₃ | hv₃
          · (revert hv₃; refine x0_2 ?_; intro hed; intro zz9; subst zz9)
            have hans5 := turn_none hans4 hed
            k_steps
            refine hKW2 _ _ _ ?_
            refine WPost.intro () (wsum ans st) ⟨tT2.trans tT5, tB5, tD5⟩ (by assumption) (by assumption) (fun _ hp => nomatch hp) (fun y hy _ => ?_) ?_ ⟨as, st, rfl, S₇, K₈, hO5, hans5, hkeep7⟩
            · simp only [List.mem_cons, List.not_mem_nil, or_false, not_or] at hy
              (revert hy; refine x0_3 ?_; intro y1 y2 y3)
              refine Eq.trans ?_ (hmD y (by simp [y1, y2, y3]) (fun hm => nomatch hm)); simp only [if_neg y1, if_neg y2, if_neg y3, over]
            · show _ < wsum ans (en :: st)
              simp only [wsum, List.map_cons, List.sum_cons]
              lia
          · (revert hv₃; refine x2_1 ?_; intro ar t3; refine x0_2 ?_; intro hed; intro zz9; subst zz9)
            have hcl : (ch ar.1).length ≤ 64 := by show 1 ≤ 64; lia
            have hxl : x.length ≤ 64 := by
              show x.cps.size ≤ 64
              rw [← Array.length_toList, hx]
              have := hkE.2
              lia
            (refine feed (htg en.2.1 ar (Aut.next_some (edge_next good hed))) ?_; refine x0_2 ?_; intro hq0 hq1)
            have hnx := edge_next good hed
            have hCx5 : Cx w (A.deeper (envOf (Str.ofString "DFA.next_valid_string") s11_7 L' 279 (.ref 278))) g₃ L' 0 := ⟨XX5, ⟨_, _, _, _, TT5⟩, ⟨_, _, _, _, tB5, Around.frames_deeper hA, rfl, rfl⟩, (by show A.depth + 1 + 0 ≤ 360; lia), (by show A.units + 3 + 6 * 0 ≤ 400; lia)⟩
            k_steps
            rotate_left
            · rename (((ch ar.1).length : Int) = 0) => h00
              exact absurd (show ((1 : Nat) : Int) = 0 from h00) (by decide)
            refine Stop.out ?_
            refine wpAny_call ?_
            refine next_st (s := ⟨_, _, _, _, _⟩) hCx5 (by assumption) (by assumption) hh S₇ ?_
            intro h₇ tk₈ v₄ F₇ N₈ hv₄
            rw [hnx] at hv₄
            rcases hv₄ with hv₄ | hv₄
            · (revert hv₄; refine x0_2 ?_; intro h0 _)
              cases h0
            (revert hv₄; refine x2_1 ?_; intro q' t5; refine x0_2 ?_; intro h0; intro zz9; subst zz9)
            obtain rfl : ar.2 = q' := Option.some.inj h0
            dsimp only
            k_steps
            refine Stop.out ?_
            refine wpAny_call ?_
            refine final_st (s := ⟨_, _, _, _, _⟩) hCx5 (by assumption) (by assumption) hh S₇ (.inr ⟨ar.2, t5, rfl, rfl⟩) ?_
            intro h₈ tk₉ F₈ N₉
            have hpc : (x ++ ch ar.1).cps.toList = en.1 ++ [ar.1] := by
              show (x.cps ++ #[ar.1]).toList = _
              rw [Array.toList_append, hx]
            cases hfa : b.F ar.2 with
            | true =>
              have hres := turn_fin good hans4 hO4 hed hfa
              rw [show finO b (some ar.2) = true from hfa]
              dsimp only
              k_steps
              refine hKW2 _ _ _ ?_
              dsimp only [WPost]
              k_steps
              exact h _ _ _ _ _ ⟨by assumption, by assumption, by assumption⟩ (by assumption) (by assumption) hkeep7 (S₇.less fun z hz => .tail _ hz) (.inr ⟨_, _, rfl, by rw [hpc]; exact hres⟩)
            | false =>
              (refine feed (turn_push good hans4 hO4 hed hfa) ?_; refine x0_2 ?_; intro hans6 hO6)
              (refine feed (turn_some good hans4 hO4 hed) ?_; refine x1_1 ?_; intro ux; refine x0_2 ?_; intro hux _)
              have hxl20 : (en.1 ++ ar.1 :: ux).length ≤ 20 := hal _ hux
              have hz7 : (as.reverse.map Value.ref).toArray.size ≤ sizeLine := by
                rw [List.size_toArray]; lia
              rw [show finO b (some ar.2) = false from hfa]
              dsimp only
              k_steps
              rename (News _ _ _ (put stl _ _)) => N₁₀
              rename (∀ p : Addr × Obj, p ∈ nw₃ → p.1 < _) => hD
              (refine feed (nv_push N₁₀ (stop_of hN7) hD S₇ hstl7 (by simp) (fun z hz => (hsix z hz).1)) ?_; refine x1_1 ?_; intro l₈; refine x0_6 ?_; intro N₁₁ st8 hs8 hD8 S₈ ht8)
              have hkl := K₄.len
              simp only [List.length_append, List.length_cons] at hxl20 hkl
              have K₉ : StkIs l₈ stl _ ((en.1 ++ [ar.1], ar.2, 0) :: st) := K₈.push ht8 hs8 hD8 hpc (.inl ⟨rfl, rfl⟩) hq1 (by simp only [List.length_append, List.length_cons, List.length_nil]; lia) (by lia)
              refine hKW2 _ _ _ ?_
              refine WPost.intro () (wsum ans ((en.1 ++ [ar.1], ar.2, 0) :: st)) ⟨tT2.trans tT5, tB5, tD5⟩ (by assumption) N₁₁ (fun _ hp => nomatch hp) (fun y hy _ => ?_) ?_ ⟨_, _, rfl, S₈, K₉, hO6, hans6, fun p hp hne => st8 p (hkeep7 p hp hne) (hfstl p hp)⟩
              · simp only [List.mem_cons, List.not_mem_nil, or_false, not_or] at hy
                (revert hy; refine x0_3 ?_; intro y1 y2 y3)
                refine Eq.trans ?_ (hmD y (by simp [y1, y2, y3]) (fun hm => nomatch hm)); simp only [if_neg y1, if_neg y2, if_neg y3, over]
              · simp only [wsum, List.map_cons, List.sum_cons, hux, List.length_append, List.length_cons, List.length_nil]
                lia)
end NVS
section Gen1
/-- the heap's first n places -/
noncomputable def cutH (h : Heap) (n : Nat) : Heap := { h with objs := h.objs.extract 0 n }
theorem cutH_lt {h : Heap} {n b : Nat} (hb : b < n) : (cutH h n).get? b = h.get? b := by
  unfold Heap.get? cutH
  have e : (h.objs.extract 0 n)[b]? = h.objs[b]? := by
    rw [Array.getElem?_extract]
    by_cases c : b < h.objs.size
    · rw [if_pos (by lia), Nat.zero_add]
    · rw [if_neg (by lia)]
      exact (Array.getElem?_eq_none (by lia)).symm
  rw [e]
theorem cutH_ge {h : Heap} {n b : Nat} (hb : n ≤ b) : (cutH h n).get? b = none := by
  unfold Heap.get? cutH
  have e : (h.objs.extract 0 n)[b]? = none := by
    rw [Array.getElem?_extract, if_neg (by lia)]
  rw [e]
theorem cutH_size {h : Heap} {n : Nat} : (cutH h n).objs.size ≤ n := by
  show (h.objs.extract 0 n).size ≤ n
  rw [Array.size_extract]; lia
theorem cutH_some {h : Heap} {n b : Nat} {o : Obj} (e : (cutH h n).get? b = some o) : b < n ∧ h.get? b = some o := by
  by_cases hb : b < n
  · exact ⟨hb, by rw [← cutH_lt hb]; exact e⟩
  · rw [cutH_ge (by lia)] at e; cases e
/-- what an object says of the names of a frame that it is -/
noncomputable def NsO (o : Obj) (m : Str → Option Value) : Prop := ∀ (h : Heap) (b : Addr), h.get? b = some o → h.Ns b m
theorem fr_nsO {h₀ h : Heap} {L : Addr} {m : Str → Option Value} (F : Fr h₀ L h m) : ∃ o, h.get? L = some o ∧ NsO o m ∧ ∃ es n, o.data = .dict es n := by
  (refine feed (F.ns) ?_; refine x3_1 ?_; intro o es ep; refine x0_4 ?_; intro e hd hk hf)
  exact ⟨o, e, fun h' b e' => ⟨o, es, ep, e', hd, hk, hf⟩, es, ep, hd⟩
/-- all objects from n on, but those at ad -/
noncomputable def restOf (h : Heap) (n : Nat) (ad : List Addr) : Led := ((List.range h.objs.size).filter fun b => decide (n ≤ b) && !ad.contains b).filterMap fun b => (h.get? b).map fun o => (b, o)
theorem mem_restOf {h : Heap} {n : Nat} {ad : List Addr} {b : Addr} {o : Obj} : (b, o) ∈ restOf h n ad ↔ h.get? b = some o ∧ n ≤ b ∧ b ∉ ad := by
  unfold restOf
  rw [List.mem_filterMap]
  constructor
  · (refine x1_1 ?_; intro c; refine x0_2 ?_; intro hc e)
    (refine feed (Option.map_eq_some_iff.mp e) ?_; refine x1_1 ?_; intro x; refine x0_2 ?_; intro hx e)
    cases e
    (refine feed (List.mem_filter.mp hc) ?_; refine x0_2 ?_; intro _ h2)
    simp only [Bool.and_eq_true, decide_eq_true_eq, Bool.not_eq_true', List.contains_eq_mem, decide_eq_false_iff_not] at h2
    exact ⟨hx, h2⟩
  · (refine x0_3 ?_; intro e h1 h2)
    refine y1_1 b (ya2 (List.mem_filter.mpr ⟨List.mem_range.mpr (Heap.lt_size e), ?_⟩) (by rw [e]; rfl))
    simp only [Bool.and_eq_true, decide_eq_true_eq, Bool.not_eq_true', List.contains_eq_mem, decide_eq_false_iff_not]
    exact ⟨h1, h2⟩
/-- the generator's own ground: all that lies below its frame but the objects that it changes -/
structure GG (w : World) (base : Heap) (A : Around) (fr : List Env) (L' : Addr) (oC : Obj) (ps : Array Value) (g : Heap) (hs : Heap) (r : Led) (h : Heap) : Prop where
  below : Below A base fr g
  X : (K w.params).In g
  T : ∃ lo mean mg mb, Top topProg lo mean mg mb g
  C : CodeHd g 55 51
  N : News g L' h ((L' + 1, oC) :: (51, tabObj ps) :: r)
  keep : ∀ b o, g.get? b = some o → h.get? b = some o
  size : g.objs.size ≤ L'
  r1 : ∀ q ∈ r, q.1 ≠ L' + 1
  r2 : ∀ q ∈ r, q.1 ≠ 51
  all : ∀ b o, b ≠ L' → b ≠ L' + 1 → b ≠ 51 → hs.get? b = some o → g.get? b = some o ∨ (b, o) ∈ r
  l51 : 51 < L'
theorem GG.elT {w : World} {base : Heap} {A : Around} {fr : List Env} {L' : Addr} {oC : Obj} {ps : Array Value} {g hs : Heap} {r : Led} {h : Heap} {p : Prop} (k : Below A base fr g → (K w.params).In g → (∃ lo mean mg mb, Top topProg lo mean mg mb g) → CodeHd g 55 51 → News g L' h ((L' + 1, oC) :: (51, tabObj ps) :: r) → (∀ b o, g.get? b = some o → h.get? b = some o) → g.objs.size ≤ L' → (∀ q ∈ r, q.1 ≠ L' + 1) → (∀ q ∈ r, q.1 ≠ 51) → (∀ b o, b ≠ L' → b ≠ L' + 1 → b ≠ 51 → hs.get? b = some o → g.get? b = some o ∨ (b, o) ∈ r) → 51 < L' → p) (C : GG w base A fr L' oC ps g hs r h) : p :=
  k C.1 C.2 C.3 C.4 C.5 C.6 C.7 C.8 C.9 C.10 C.11
theorem GG.el {w : World} {base : Heap} {A : Around} {fr : List Env} {L' : Addr} {oC : Obj} {ps : Array Value} {g hs : Heap} {r : Led} {h : Heap} {p : Prop} (k : Below A base fr g → (K w.params).In g → ∀ lo mean mg mb, Top topProg lo mean mg mb g → CodeHd g 55 51 → News g L' h ((L' + 1, oC) :: (51, tabObj ps) :: r) → (∀ b o, g.get? b = some o → h.get? b = some o) → g.objs.size ≤ L' → (∀ q ∈ r, q.1 ≠ L' + 1) → (∀ q ∈ r, q.1 ≠ 51) → (∀ b o, b ≠ L' → b ≠ L' + 1 → b ≠ 51 → hs.get? b = some o → g.get? b = some o ∨ (b, o) ∈ r) → 51 < L' → p) (C : GG w base A fr L' oC ps g hs r h) : p :=
  C.T.elim fun a i => i.elim fun b i => i.elim fun c i => i.elim fun d i => k C.1 C.2 a b c d i C.4 C.5 C.6 C.7 C.8 C.9 C.10 C.11
noncomputable def GR (w : World) (base : Heap) (A : Around) (fr : List Env) (L' : Addr) (oF oC : Obj) (ps : Array Value) (ex : Led) (h : Heap) : Prop :=
  h.get? L' = some oF ∧ ∃ g r, GG w base A fr L' oC ps g h r h ∧ ∀ p ∈ ex, p ∈ r
theorem GR.of {w : World} {base : Heap} {A A₀ : Around} {env : Env} {outer : List Env} {h₀ h : Heap} {L L' : Nat} {m : Str → Option Value} {nw ex : Led} {oF oC : Obj} {ps : Array Value} {lo mean mg mb}
    (B : Below A₀ base outer h₀) (F : Fr h₀ L h m) (N : News h₀ L h nw) (hA : A.frames = some (env :: outer)) (hf : env.frame = some L) (hk : env.scope.kind = .function)
    (X : (K w.params).In h₀) (T : Top topProg lo mean mg mb h₀) (C : CodeHd h₀ 55 51) (hL : L < L') (h51 : 51 < L') (hF : (L', oF) ∈ nw) (hC : (L' + 1, oC) ∈ nw) (hP : (51, tabObj ps) ∈ nw)
    (hex : ∀ p ∈ ex, p ∈ nw ∧ L' ≤ (p.1 : Nat) ∧ p.1 ∉ [L', L' + 1, 51]) : GR w base A (env :: outer) L' oF oC ps ex h := by
  have st : h₀.StaysIn (cutH (hideAll h [L', L' + 1, 51]) L') := fun b o e => by
    have hb : (b : Nat) < h₀.objs.size := Heap.lt_size e
    have hab : h₀.objs.size ≤ L := F.above
    have hbL : (b : Nat) < L' := Nat.lt_trans (Nat.lt_of_lt_of_le hb hab) hL
    rw [cutH_lt hbL]
    refine hideAll_get _ (F.keep b o e) fun hm => ?_
    simp only [List.mem_cons, List.not_mem_nil, or_false] at hm
    rcases hm with q | q | rfl
    · exact absurd hbL (by rw [q]; exact Nat.lt_irrefl _)
    · exact absurd hbL (by rw [q]; exact Nat.not_lt.mpr (Nat.le_succ _))
    · have := (N _ hP).2.2; rw [e] at this; cases this
  (refine feed (F.ns) ?_; refine x3_1 ?_; intro oL es ep; refine x0_4 ?_; intro hLo hLd hLk hLf)
  have FL : Fr h₀ L (cutH (hideAll h [L', L' + 1, 51]) L') m := ⟨⟨oL, es, ep, by
      rw [cutH_lt hL]
      refine hideAll_get _ hLo fun hm => ?_
      simp only [List.mem_cons, List.not_mem_nil, or_false] at hm
      rcases hm with e | e | e
      · exact absurd hL (by rw [← e]; exact Nat.lt_irrefl _)
      · exact absurd hL (by rw [e]; exact Nat.not_lt.mpr (Nat.le_succ _))
      · exact (N _ hP).2.1 e.symm, hLd, hLk, hLf⟩, st, F.above⟩
  have B' := pushX B FL hf hk
  refine ⟨(N _ hF).1, cutH (hideAll h [L', L' + 1, 51]) L', restOf h L' [L', L' + 1, 51], ⟨⟨hA, B'.stays, B'.frames⟩, X.keeps st, ⟨_, _, _, _, T.keeps st⟩, C.keeps st, ?_, fun b o e => of_hideAll _ (cutH_some e).2, cutH_size, ?_, ?_, ?_, h51⟩, ?_⟩
  · intro p hp
    rcases List.mem_cons.mp hp with rfl | hp
    · exact ⟨(N _ hC).1, by simp, cutH_ge (by simp)⟩
    rcases List.mem_cons.mp hp with rfl | hp
    · exact ⟨(N _ hP).1, Nat.ne_of_lt h51, by rw [cutH_lt h51]; exact hideAll_none _ (by simp)⟩
    · (refine feed (mem_restOf.mp hp) ?_; refine x0_3 ?_; intro h1 h2 h3)
      exact ⟨h1, fun e => h3 (by rw [e]; simp), cutH_ge h2⟩
  · intro q hq e
    exact (mem_restOf.mp hq).2.2 (by rw [e]; simp)
  · intro q hq e
    exact (mem_restOf.mp hq).2.2 (by rw [e]; simp)
  · intro b o n1 n2 n3 e
    have hn : b ∉ [L', L' + 1, 51] := by simp [n1, n2, n3]
    by_cases hb : b < L'
    · exact .inl (by rw [cutH_lt hb]; exact hideAll_get _ e hn)
    · exact .inr (mem_restOf.mpr ⟨e, Nat.le_of_not_lt hb, hn⟩)
  · intro p hp
    (refine feed (hex p hp) ?_; refine x0_3 ?_; intro h1 h2 h3)
    exact mem_restOf.mpr ⟨(N _ h1).1, h2, h3⟩
end Gen1
section Gen2
noncomputable abbrev envG (L' : Nat) : Env := envOfC (Str.ofString "split_ranges") s3 L' 56 (.ref 55)
noncomputable def gws : {x : List Stmt // x = (match b3 with | [_, .While _ b _ _] => b | _ => [])} := ⟨_, by conv => rhs; whnf⟩
noncomputable abbrev gw : List Stmt := gws.1
noncomputable def lamPs : {x : Arguments // x = (match (gw[2]? : Option Stmt) with | some (Stmt.Assign _ (PySem.Expr.Lambda p _ _ _) _) => p | _ => default)} := ⟨_, by conv => rhs; whnf⟩
noncomputable def lamBs : {x : PySem.Expr // x = (match (gw[2]? : Option Stmt) with | some (Stmt.Assign _ (PySem.Expr.Lambda _ b _ _) _) => b | _ => default)} := ⟨_, by conv => rhs; whnf⟩
noncomputable def lamSs : {x : Scope // x = (match (gw[2]? : Option Stmt) with | some (Stmt.Assign _ (PySem.Expr.Lambda _ _ c _) _) => c | _ => default)} := ⟨_, by conv => rhs; whnf⟩
noncomputable abbrev lamP : Arguments := lamPs.1
noncomputable abbrev lamB : PySem.Expr := lamBs.1
noncomputable abbrev lamS : Scope := lamSs.1
noncomputable abbrev lamQ : Str := (Str.ofString "split_ranges" ++ ".<locals>.") ++ Str.ofString "<lambda>"
noncomputable abbrev lamObj (L' : Nat) (pm : Value) (c' : Addr) (ctv : Value) : Obj := kla_obj (Str.ofString "<lambda>") lamQ lamP lamB lamS [(Str.ofString "shift", L' + 1)] pm c' ctv
/-- the table of inner codes, and the lambda's code if it was made -/
noncomputable def CodeOk (c' : Addr) (r : Led) : Prop := ∃ oc vs t, (c', oc) ∈ r ∧ oc.data = .fields vs ∧ vs[1]? = some (.str lamQ t)
noncomputable abbrev tab1 (c' : Addr) : Array Value := #[rawInt 11, rawInt 18, .ref c']
noncomputable def TabS (L' : Nat) (ps : Array Value) (r : Led) : Prop := ps = #[] ∨ ∃ c', ps = tab1 c' ∧ CodeOk c' r ∧ L' < c'
noncomputable def mskI (st sh : Int) : Int := (1 * 2 ^ st.toNat - 1) * 2 ^ sh.toNat
noncomputable def nmI (size st sh : Int) : Int := Builtin.bitAnd (Builtin.bitNot (mskI st sh)) (1 * 2 ^ (size + 1).toNat - 1)
noncomputable def hlB (st sh a : Int) : Bool := Builtin.bitAnd a (mskI st sh) != 0
noncomputable def huB (st sh b : Int) : Bool := Builtin.bitAnd b (mskI st sh) != mskI st sh
noncomputable def nsI (size st sh a : Int) : Int := Builtin.bitAnd (if hlB st sh a then a + 1 * 2 ^ (sh + st).toNat else a) (nmI size st sh)
noncomputable def neI (size st sh b : Int) : Int := Builtin.bitAnd (if huB st sh b then b - 1 * 2 ^ (sh + st).toNat else b) (nmI size st sh)
noncomputable abbrev gnames (L' : Nat) (size st sh a b : Int) (f : Addr) (t1 t2 t3 t4 t6 t8 t9 : Tok) : List (Str × Value) :=
  [(Str.ofString "not_mask", .int (nmI size st sh) t6), (Str.ofString "hasupper", .bool (huB st sh b)), (Str.ofString "haslower", .bool (hlB st sh a)),
    (Str.ofString "setbits", .ref f), (Str.ofString "mask", .int (mskI st sh) t9), (Str.ofString "diff", .int (1 * 2 ^ (sh + st).toNat) t8), (Str.ofString "intsize", .int size t1), (Str.ofString "step", .int st t2), (Str.ofString "start", .int a t3), (Str.ofString "end", .int b t4)]
theorem gg_made {w : World} {A₀ : Around} {base g hs h h' : Heap} {fr : List Env} {L' : Nat} {m : Str → Option Value} {oC oc : Obj} {r : Led} {ps : Array Value} {c' f : Nat} {pm ctv : Value} {vs : Array Value} {t : Tok}
    (G : GG w base A₀ fr L' oC ps g hs r h) (F : Fr g L' h' m) (N : News g L' h' ((f, lamObj L' pm c' ctv) :: (c', oc) :: (L' + 1, oC) :: (51, tabObj (tab1 c')) :: r)) (l1 : L' + 1 < c' ∧ 51 < c' ∧ AllLt c' r) (l2 : c' < f) (k2 : oc.data = .fields vs) (k3 : vs[1]? = some (.str lamQ t)) :
    ∃ r', GG w base A₀ fr L' oC (tab1 c') g hs r' h' ∧ (∀ p ∈ r, p ∈ r') ∧ (f, lamObj L' pm c' ctv) ∈ r' ∧ CodeOk c' r' ∧ L' < f ∧ L' < c' := by
  obtain ⟨B, X, T, C, _, kp, sz, r1, r2, al, l51⟩ := G
  (revert l1; refine x0_3 ?_; intro j1 j2 j3)
  refine y1_1 ((f, lamObj L' pm c' ctv) :: (c', oc) :: r) (ya6 (⟨B, X, T, C, fun q hq => N q ?_, F.keep, sz, ?_, ?_, fun b o n1 n2 n3 e => (al b o n1 n2 n3 e).imp id fun x => .tail _ (.tail _ x), l51⟩) (fun p hp => .tail _ (.tail _ hp)) (.head _) ⟨oc, vs, t, .tail _ (.head _), k2, k3⟩ (Nat.lt_trans (Nat.lt_of_succ_lt j1) l2) (Nat.lt_of_succ_lt j1))
  · rcases List.mem_cons.mp hq with rfl | hq
    · exact .tail _ (.tail _ (.head _))
    rcases List.mem_cons.mp hq with rfl | hq
    · exact .tail _ (.tail _ (.tail _ (.head _)))
    rcases List.mem_cons.mp hq with rfl | hq
    · exact .head _
    rcases List.mem_cons.mp hq with rfl | hq
    · exact .tail _ (.head _)
    · exact .tail _ (.tail _ (.tail _ (.tail _ hq)))
  · intro q hq
    rcases List.mem_cons.mp hq with rfl | hq
    · exact Nat.ne_of_gt (Nat.lt_trans j1 l2)
    rcases List.mem_cons.mp hq with rfl | hq
    · exact Nat.ne_of_gt j1
    · exact r1 q hq
  · intro q hq
    rcases List.mem_cons.mp hq with rfl | hq
    · exact Nat.ne_of_gt (Nat.lt_trans j2 l2)
    rcases List.mem_cons.mp hq with rfl | hq
    · exact Nat.ne_of_gt j2
    · exact r2 q hq
theorem gg_again {w : World} {A₀ : Around} {base g hs h h' : Heap} {fr : List Env} {L' : Nat} {m : Str → Option Value} {oC : Obj} {r : Led} {ps : Array Value} {c' f : Nat} {pm ctv : Value}
    (G : GG w base A₀ fr L' oC ps g hs r h) (F : Fr g L' h' m) (N : News g L' h' ((f, lamObj L' pm c' ctv) :: (L' + 1, oC) :: (51, tabObj (tab1 c')) :: r)) (l1 : L' + 1 < f ∧ 51 < f ∧ AllLt f r) (k : CodeOk c' r) (l6 : L' < c') :
    ∃ r', GG w base A₀ fr L' oC (tab1 c') g hs r' h' ∧ (∀ p ∈ r, p ∈ r') ∧ (f, lamObj L' pm c' ctv) ∈ r' ∧ CodeOk c' r' ∧ L' < f ∧ L' < c' := by
  obtain ⟨B, X, T, C, _, kp, sz, r1, r2, al, l51⟩ := G
  (revert l1; refine x0_3 ?_; intro j1 j2 j3)
  (revert k; refine x3_1 ?_; intro oc vs t; refine x0_3 ?_; intro k1 k2 k3)
  refine y1_1 ((f, lamObj L' pm c' ctv) :: r) (ya6 ⟨B, X, T, C, fun q hq => N q ?_, F.keep, sz, ?_, ?_, fun b o n1 n2 n3 e => (al b o n1 n2 n3 e).imp id fun x => .tail _ x, l51⟩ (fun p hp => .tail _ hp) (.head _) ⟨oc, vs, t, .tail _ k1, k2, k3⟩ (Nat.lt_of_succ_lt j1) l6)
  · rcases List.mem_cons.mp hq with rfl | hq
    · exact .tail _ (.head _)
    rcases List.mem_cons.mp hq with rfl | hq
    · exact .tail _ (.tail _ (.head _))
    rcases List.mem_cons.mp hq with rfl | hq
    · exact .head _
    · exact .tail _ (.tail _ (.tail _ hq))
  · intro q hq
    rcases List.mem_cons.mp hq with rfl | hq
    · exact Nat.ne_of_gt j1
    · exact r1 q hq
  · intro q hq
    rcases List.mem_cons.mp hq with rfl | hq
    · exact Nat.ne_of_gt j2
    · exact r2 q hq
theorem gen_head {w : World} {A A₀ : Around} {base g hs : Heap} {fr : List Env} {L' : Nat} {m : Str → Option Value} {oC : Obj} {ps : Array Value} {r : Led} {s : Shared} {E : Value → Shared → Prop} {Q : Flow → Shared → Prop}
    {size st sh a b : Int} {t1 t2 t3 t4 t5 : Tok}
    (G : GG w base A₀ fr L' oC ps g hs r s.heap) (F : Fr g L' s.heap m) (hA : A.frames = some (envG L' :: fr)) (hh : A.handled = none) (hd : A.depth ≤ 310) (hu : A.units ≤ 100) (hC : oC.data = .cell (some (.int sh t5)))
    (m1 : m (Str.ofString "intsize") = some (.int size t1)) (m2 : m (Str.ofString "step") = some (.int st t2)) (m3 : m (Str.ofString "start") = some (.int a t3)) (m4 : m (Str.ofString "end") = some (.int b t4)) (hs0 : 0 ≤ sh) (hs1 : sh ≤ 64) (hst0 : 0 ≤ st) (hst1 : st ≤ 16) (hz0 : 0 ≤ size) (hz1 : size ≤ 64) (hps : TabS L' ps r)
    (h : ∀ h' tk' r' f c' pm ctv t6 t8 t9 mm, Fr g L' h' (over (gnames L' size st sh a b f t1 t2 t3 t4 t6 t8 t9) mm) → GG w base A₀ fr L' oC (tab1 c') g hs r' h' → (∀ p ∈ r, p ∈ r') → (f, lamObj L' pm c' ctv) ∈ r' → CodeOk c' r' → L' < f → L' < c' → Q .next ⟨h', s.gens, s.drawn, tk', s.os⟩) :
    wpAny (model prog w) A (execs (gw.take 6) (envG L')) Q E s := by
  have hG := G
  obtain ⟨B, X, ⟨lo, mean, mg, mb, T⟩, C, N, kp, sz, r1, r2, al, l51⟩ := G
  have l51' : (51 : Nat) < L' := l51
  have n51 : (L' + 1 : Nat) ≠ 51 := by lia
  replace F := frame_of (m₀ := m) (nms := [(Str.ofString "intsize", .int size t1), (Str.ofString "step", .int st t2), (Str.ofString "start", .int a t3), (Str.ofString "end", .int b t4)]) (ls := []) F (by
    intro p hp
    simp only [List.mem_cons, List.not_mem_nil, or_false] at hp
    rcases hp with rfl | rfl | rfl | rfl <;> assumption) (fun _ _ _ => rfl)
  dsimp only [over, mask] at F
  dsimp only [gw, gws, List.take, envG]
  rcases hps with rfl | ⟨c', rfl, ⟨oc, vs, tq, k1, k2, k3⟩, l6⟩
  · k_steps
    rename (News g L' _ ((_, kla_obj _ _ _ _ _ _ _ _ _) :: _)) => N9
    rename Fr g L' _ _ => F9
    rename (L' + 1 < _ ∧ _) => l1
    rename (_ < _) => l2
    rename (_[1]? = some _) => k3
    rename (_ = Data.fields _) => k2
    (refine feed (gg_made hG F9 N9 l1 l2 k2 k3) ?_; refine x1_1 ?_; intro r'; refine x0_6 ?_; intro a1 a2 a3 a4 a5 a6)
    exact h _ _ r' _ _ _ _ _ _ _ m F9 a1 a2 a3 a4 a5 a6
  · k_steps
    rename (News g L' _ ((_, kla_obj _ _ _ _ _ _ _ _ _) :: _)) => N9
    rename Fr g L' _ _ => F9
    rename (L' + 1 < _ ∧ _) => l1
    (refine feed (gg_again hG F9 N9 l1 ⟨oc, vs, tq, k1, k2, k3⟩ l6) ?_; refine x1_1 ?_; intro r'; refine x0_6 ?_; intro a1 a2 a3 a4 a5 a6)
    exact h _ _ r' _ _ _ _ _ _ _ m F9 a1 a2 a3 a4 a5 a6
end Gen2
section Gen3
noncomputable abbrev gnames2 (L' : Nat) (size st sh a b : Int) (f : Addr) (t1 t2 t3 t4 t6 t7 t8 t9 t10 : Tok) : List (Str × Value) :=
  (Str.ofString "nextend", .int (neI size st sh b) t10) :: (Str.ofString "nextstart", .int (nsI size st sh a) t7) :: gnames L' size st sh a b f t1 t2 t3 t4 t6 t8 t9
theorem gen_next2 {w : World} {A A₀ : Around} {base g hs : Heap} {fr : List Env} {L' : Nat} {m : Str → Option Value} {oC : Obj} {ps : Array Value} {r : Led} {s : Shared} {E : Value → Shared → Prop} {Q : Flow → Shared → Prop}
    {size st sh a b : Int} {t1 t2 t3 t4 t6 t8 t9 : Tok} {f : Addr}
    (G : GG w base A₀ fr L' oC ps g hs r s.heap) (F : Fr g L' s.heap (over (gnames L' size st sh a b f t1 t2 t3 t4 t6 t8 t9) m)) (hA : A.frames = some (envG L' :: fr)) (hh : A.handled = none) (hd : A.depth ≤ 310) (hu : A.units ≤ 100)
    (h : ∀ h' tk' t7 t10, Fr g L' h' (over (gnames2 L' size st sh a b f t1 t2 t3 t4 t6 t7 t8 t9 t10) m) → GG w base A₀ fr L' oC ps g hs r h' → Q .next ⟨h', s.gens, s.drawn, tk', s.os⟩) :
    wpAny (model prog w) A (execs ((gw.drop 6).take 2) (envG L')) Q E s := by
  have hG := G
  obtain ⟨B, X, ⟨lo, mean, mg, mb, T⟩, C, N, kp, sz, r1, r2, al, l51⟩ := G
  dsimp only [over, gnames] at F
  dsimp only [over, gnames2, gnames] at h
  dsimp only [gw, gws, List.take, List.drop, envG]
  have ns : ∀ b, b = hlB st sh a → nsI size st sh a = Builtin.bitAnd (if b then a + 1 * 2 ^ (sh + st).toNat else a) (nmI size st sh) := fun b e => by rw [e]; rfl
  have ne : ∀ c, c = huB st sh b → neI size st sh b = Builtin.bitAnd (if c then b - 1 * 2 ^ (sh + st).toNat else b) (nmI size st sh) := fun c e => by rw [e]; rfl
  generalize hlB st sh a = hl at *
  generalize huB st sh b = hu' at *
  replace ns := ns _ rfl
  replace ne := ne _ rfl
  generalize neI size st sh b = nev at *
  generalize nsI size st sh a = nsv at *
  generalize nmI size st sh = nm at *
  generalize mskI st sh = mk at *
  cases hl <;> cases hu' <;> subst ns ne
  all_goals
    k_steps
    rename Fr g L' _ _ => F9
    rename News g L' _ _ => N9
    exact h _ _ _ _ F9 ⟨B, X, ⟨_, _, _, _, T⟩, C, N9, F9.keep, sz, r1, r2, al, l51⟩
/-- the call of the lambda -/
theorem setbits_spec {w : World} {A A₀ : Around} {base g hs : Heap} {fr : List Env} {L' : Nat} {m : Str → Option Value} {oC : Obj} {ps : Array Value} {r : Led} {s : Shared} {R : Result → Shared → Prop}
    {sh x : Int} {t5 tx : Tok} {f c' : Addr} {pm ctv : Value}
    (G : GG w base A₀ fr L' oC ps g hs r s.heap) (F : Fr g L' s.heap m) (hA : A.frames = some (envG L' :: fr)) (hh : A.handled = none) (hd : A.depth ≤ 310) (hu : A.units ≤ 100) (hC : oC.data = .cell (some (.int sh t5))) (hs0 : 0 ≤ sh) (hs1 : sh ≤ 64)
    (hf : (f, lamObj L' pm c' ctv) ∈ r) (hc : CodeOk c' r)
    (h : ∀ h' tk' t', Fr g L' h' m → GG w base A₀ fr L' oC ps g hs r h' → R (.ok (.ret (.int (Builtin.bitOr x (1 * 2 ^ sh.toNat - 1)) t'))) ⟨h', s.gens, s.drawn, tk', s.os⟩) :
    codeAny (model prog w) A (.call (.ref f) ⟨[.int x tx], []⟩) R s := by
  have hG := G
  obtain ⟨B, X, ⟨lo, mean, mg, mb, T⟩, C, N, kp, sz, r1, r2, al, l51⟩ := G
  (revert hc; refine x3_1 ?_; intro oc vs tq; refine x0_3 ?_; intro k1 k2 k3)
  have hf' : (f, lamObj L' pm c' ctv) ∈ (L' + 1, oC) :: (51, tabObj ps) :: r := .tail _ (.tail _ hf)
  have hk' : (c', oc) ∈ (L' + 1, oC) :: (51, tabObj ps) :: r := .tail _ (.tail _ k1)
  refine fillIt ?_
  k_fill
  intro _
  w_strict (
    (refine' kla_code B F X N T ?kA ?kF ?kK hf' (codeRec_news N hk' k2 k3) ?k8 ?k9 ?kB ?_ ?c2 ?c3 ?c4 ?c5; (case kA => exact hA); (case kF => exact rfl); (case kK => exact rfl); (case k8 => k_room); (case k9 => exact rfl); (case c5 => decide); (case kB => exact locs rfl); (case c2 => exact rfl); (case c3 => exact rfl); (case c4 => exact rfl))
    intro g' L2 h' FG' F' N' B' X' T'
    dsimp only [lamB, lamBs]
    k_steps
    rename Fr g L' _ _ => F9
    rename News g L' _ _ => N9
    exact h _ _ _ F9 ⟨B, X, ⟨_, _, _, _, T⟩, C, N9, F9.keep, sz, r1, r2, al, l51⟩)
end Gen3
section Gen4
local macro_rules | `(tactic| walk_at $s:str) => do
  let k := Lean.Syntax.mkStrLit ("Gen4:" ++ s.getString)
  `(tactic| k_extra $k)
local macro_rules | `(tactic| walk_at "zz") => `(tactic| skip)
section
variable {M : Model} {A : Around} {R : GenEnd} {Y : Protocol} {n : Nat} {s₀ : Shared} {c : Code} {fs : List Frame} {s : Shared} {env : Env}
  {KK : Flow → Sem Fin} {H : Value → Sem Fin} {gd : Bool → Bool} {lv : List Value → List Value}
theorem execs_app_wrap (l₂ : List Stmt) : ∀ l₁ : List Stmt, (execs (l₁ ++ l₂) env).wrap KK H gd lv =
    (execs l₁ env).wrap (fun f => match f with | .next => (execs l₂ env).wrap KK H gd lv | f => KK f) H gd lv
  | [] => rfl
  | st :: l => by
    rw [List.cons_append, execs_cons_wrap, execs_cons_wrap]
    refine Sem.wrap_congr _ _ _ (fun f => ?_) fun _ => rfl
    cases f with
    | next => exact execs_app_wrap l₂ l
    | _ => rfl
theorem seg_app {l₁ l₂ : List Stmt}
    (h : wpAny M (A.over c fs) (execs l₁ env) (fun f s' => Seg M A R Y n s₀ c (match f with | .next => (execs l₂ env).wrap KK H gd lv | f => KK f) fs s') (fun x s' => Seg M A R Y n s₀ c (H x) fs s') s) :
    Seg M A R Y n s₀ c ((execs (l₁ ++ l₂) env).wrap KK H gd lv) fs s := by
  rw [execs_app_wrap]; exact seg_wrap h
theorem seg_If {test : PySem.Expr} {body orelse : List Stmt} {pos : Pos}
    (h : wpAny M (A.over c fs) (isTrue test env (eval test env)) (fun b s' => if b = true then Seg M A R Y n s₀ c ((execs body env).wrap KK H gd lv) fs s' else Seg M A R Y n s₀ c ((execs orelse env).wrap KK H gd lv) fs s') (fun x s' => Seg M A R Y n s₀ c (H x) fs s') s) :
    Seg M A R Y n s₀ c ((exec (.If test body orelse pos) env).wrap KK H gd lv) fs s := by
  rw [exec_If]
  refine seg_at ?_
  show Seg M A R Y n s₀ c ((isTrue test env (eval test env) >>= fun b => if b = true then execs body env else execs orelse env).wrap KK H gd lv) fs s
  rw [Sem.bind_eq_wrap', Sem.wrap_wrap]
  refine seg_wrap (wpAny_mono h (fun b s' h' => ?_) fun _ _ x => x)
  cases b with
  | true => rw [if_pos rfl] at h' ⊢; exact h'
  | false => rw [if_neg Bool.false_ne_true] at h' ⊢; exact h'
end
example : True := by
  (k_with "Gen4:call ref" => k_here; (with_reducible show wpAny _ _ (call (Value.ref _) [Value.int _ _]) _ _ _); refine wpAny_call ?_; k_dflt (refine' setbits_spec (by assumption) (by assumption) (by assumption) (by assumption) (by assumption) (by assumption) (by assumption) (by assumption) (by assumption) (by assumption) (by assumption) ?_); intro h'zz tk'zz t'zz F'zz G'zz; (have N'zz := GG.N G'zz); (try dsimp only); (revert h'zz tk'zz t'zz F'zz G'zz N'zz; intro _ _ _ _ _ _))
  trivial
/-- the three rows: what a yield tells -/
noncomputable def yE (i : Nat) : PySem.Expr := match (gw[i]? : Option Stmt) with
  | some (Stmt.If _ (Stmt.Expr (PySem.Expr.Yield (some e) _) _ :: _) _ _) => e
  | _ => default
noncomputable def y8s : {x : PySem.Expr // x = yE 8} := ⟨_, by conv => rhs; whnf⟩
noncomputable def y9s : {x : PySem.Expr // x = yE 9} := ⟨_, by conv => rhs; whnf⟩
noncomputable def y10s : {x : PySem.Expr // x = yE 10} := ⟨_, by conv => rhs; whnf⟩
structure GenC (w : World) (A : Around) (fr : List Env) (L' : Nat) (oC : Obj) (sh : Int) (t5 : Tok) (r : Led) (f c' : Addr) (pm ctv : Value) : Prop where
  hA : A.frames = some (envG L' :: fr)
  hh : A.handled = none
  hd : A.depth ≤ 310
  hu : A.units ≤ 100
  hC : oC.data = .cell (some (.int sh t5))
  s0 : 0 ≤ sh
  s1 : sh ≤ 64
  hf : (f, lamObj L' pm c' ctv) ∈ r
  hc : CodeOk c' r
theorem GenC.el {w : World} {A : Around} {fr : List Env} {L' : Nat} {oC : Obj} {sh : Int} {t5 : Tok} {r : Led} {f c' : Addr} {pm ctv : Value} {p : Prop} (k : A.frames = some (envG L' :: fr) → A.handled = none → A.depth ≤ 310 → A.units ≤ 100 → oC.data = .cell (some (.int sh t5)) → 0 ≤ sh → sh ≤ 64 → (f, lamObj L' pm c' ctv) ∈ r → CodeOk c' r → p)
    (C : GenC w A fr L' oC sh t5 r f c' pm ctv) : p := k C.1 C.2 C.3 C.4 C.5 C.6 C.7 C.8 C.9
theorem row_fin {w : World} {A₀ : Around} {base g hs h h' : Heap} {fr : List Env} {L' D : Nat} {m : Str → Option Value} {oC : Obj} {ps vs : Array Value} {r : Led}
    (G : GG w base A₀ fr L' oC ps g hs r h) (F : Fr g L' h' m) (N : News g L' h' ((D, { cls := .type "tuple", data := .seq vs }) :: (L' + 1, oC) :: (51, tabObj ps) :: r)) (l1 : L' + 1 < D ∧ 51 < D ∧ AllLt D r) :
    GG w base A₀ fr L' oC ps g hs r h' ∧ h'.IsTuple D vs ∧ hs.get? D = none := by
  refine ⟨⟨G.below, G.X, G.T, G.C, fun q hq => N q (.tail _ hq), F.keep, G.size, G.r1, G.r2, G.all, G.l51⟩, ⟨_, (N _ (.head _)).1, rfl, _, rfl⟩, ?_⟩
  cases e : hs.get? D with
  | none => rfl
  | some o =>
    rcases G.all _ _ (Nat.ne_of_gt (Nat.lt_of_succ_lt l1.1)) (Nat.ne_of_gt l1.1) (Nat.ne_of_gt l1.2.1) e with q | q
    · have := (N _ (.head _)).2.2; rw [q] at this; cases this
    · exact absurd (allLt_ne l1.2.2 _ q) (by simp)
theorem row8 {w : World} {A A₀ : Around} {base g hs : Heap} {fr : List Env} {L' : Nat} {m : Str → Option Value} {oC : Obj} {ps : Array Value} {r : Led} {s : Shared} {E : Value → Shared → Prop} {Q : Value → Shared → Prop}
    {size st sh a b : Int} {t1 t2 t3 t4 t5 t6 t7 t8 t9 t10 : Tok} {f c' : Addr} {pm ctv : Value}
    (G : GG w base A₀ fr L' oC ps g hs r s.heap) (F : Fr g L' s.heap (over (gnames2 L' size st sh a b f t1 t2 t3 t4 t6 t7 t8 t9 t10) m)) (C : GenC w A fr L' oC sh t5 r f c' pm ctv)
    (h : ∀ h' tk' tp a1 a2 a3, Fr g L' h' (over (gnames2 L' size st sh a b f t1 t2 t3 t4 t6 t7 t8 t9 t10) m) → GG w base A₀ fr L' oC ps g hs r h' → h'.IsTuple tp #[.int a a1, .int (Builtin.bitOr b (1 * 2 ^ sh.toNat - 1)) a2, .int sh a3] → hs.get? tp = none → Q (.ref tp) ⟨h', s.gens, s.drawn, tk', s.os⟩) :
    wpAny (model prog w) A (eval y8s.1 (envG L')) Q E s := by
  obtain ⟨hA, hh, hd, hu, hC, s0, s1, hf, hc⟩ := C
  have hG := G
  obtain ⟨B, X, ⟨lo, mean, mg, mb, T⟩, Cd, N, kp, sz, r1, r2, al, l51⟩ := G
  have hf' : (f, lamObj L' pm c' ctv) ∈ (L' + 1, oC) :: (51, tabObj ps) :: r := .tail _ (.tail _ hf)
  dsimp only [over, gnames2, gnames] at F
  dsimp only [y8s, envG]
  k_steps
  rename Fr g L' _ _ => F9
  rename News g L' _ _ => N9
  rename (L' + 1 < _ ∧ _) => l1
  (refine feed (row_fin hG F9 N9 l1) ?_; refine x0_3 ?_; intro j1 j2 j3)
  exact h _ _ _ _ _ _ F9 j1 j2 j3
theorem row9 {w : World} {A A₀ : Around} {base g hs : Heap} {fr : List Env} {L' : Nat} {m : Str → Option Value} {oC : Obj} {ps : Array Value} {r : Led} {s : Shared} {E : Value → Shared → Prop} {Q : Value → Shared → Prop}
    {size st sh a b : Int} {t1 t2 t3 t4 t5 t6 t7 t8 t9 t10 : Tok} {f c' : Addr} {pm ctv : Value}
    (G : GG w base A₀ fr L' oC ps g hs r s.heap) (F : Fr g L' s.heap (over (gnames2 L' size st sh a b f t1 t2 t3 t4 t6 t7 t8 t9 t10) m)) (C : GenC w A fr L' oC sh t5 r f c' pm ctv)
    (h : ∀ h' tk' tp a1 a2 a3, Fr g L' h' (over (gnames2 L' size st sh a b f t1 t2 t3 t4 t6 t7 t8 t9 t10) m) → GG w base A₀ fr L' oC ps g hs r h' → h'.IsTuple tp #[.int a a1, .int (Builtin.bitOr (Builtin.bitOr a (mskI st sh)) (1 * 2 ^ sh.toNat - 1)) a2, .int sh a3] → hs.get? tp = none → Q (.ref tp) ⟨h', s.gens, s.drawn, tk', s.os⟩) :
    wpAny (model prog w) A (eval y9s.1 (envG L')) Q E s := by
  obtain ⟨hA, hh, hd, hu, hC, s0, s1, hf, hc⟩ := C
  have hG := G
  obtain ⟨B, X, ⟨lo, mean, mg, mb, T⟩, Cd, N, kp, sz, r1, r2, al, l51⟩ := G
  have hf' : (f, lamObj L' pm c' ctv) ∈ (L' + 1, oC) :: (51, tabObj ps) :: r := .tail _ (.tail _ hf)
  dsimp only [over, gnames2, gnames] at F
  dsimp only [y9s, envG]
  k_steps
  rename Fr g L' _ _ => F9
  rename News g L' _ _ => N9
  rename (L' + 1 < _ ∧ _) => l1
  (refine feed (row_fin hG F9 N9 l1) ?_; refine x0_3 ?_; intro j1 j2 j3)
  exact h _ _ _ _ _ _ F9 j1 j2 j3
theorem row10 {w : World} {A A₀ : Around} {base g hs : Heap} {fr : List Env} {L' : Nat} {m : Str → Option Value} {oC : Obj} {ps : Array Value} {r : Led} {s : Shared} {E : Value → Shared → Prop} {Q : Value → Shared → Prop}
    {size st sh a b : Int} {t1 t2 t3 t4 t5 t6 t7 t8 t9 t10 : Tok} {f c' : Addr} {pm ctv : Value}
    (G : GG w base A₀ fr L' oC ps g hs r s.heap) (F : Fr g L' s.heap (over (gnames2 L' size st sh a b f t1 t2 t3 t4 t6 t7 t8 t9 t10) m)) (C : GenC w A fr L' oC sh t5 r f c' pm ctv)
    (h : ∀ h' tk' tp a1 a2 a3, Fr g L' h' (over (gnames2 L' size st sh a b f t1 t2 t3 t4 t6 t7 t8 t9 t10) m) → GG w base A₀ fr L' oC ps g hs r h' → h'.IsTuple tp #[.int (Builtin.bitAnd b (nmI size st sh)) a1, .int (Builtin.bitOr b (1 * 2 ^ sh.toNat - 1)) a2, .int sh a3] → hs.get? tp = none → Q (.ref tp) ⟨h', s.gens, s.drawn, tk', s.os⟩) :
    wpAny (model prog w) A (eval y10s.1 (envG L')) Q E s := by
  obtain ⟨hA, hh, hd, hu, hC, s0, s1, hf, hc⟩ := C
  have hG := G
  obtain ⟨B, X, ⟨lo, mean, mg, mb, T⟩, Cd, N, kp, sz, r1, r2, al, l51⟩ := G
  have hf' : (f, lamObj L' pm c' ctv) ∈ (L' + 1, oC) :: (51, tabObj ps) :: r := .tail _ (.tail _ hf)
  dsimp only [over, gnames2, gnames] at F
  dsimp only [y10s, envG]
  k_steps
  rename Fr g L' _ _ => F9
  rename News g L' _ _ => N9
  rename (L' + 1 < _ ∧ _) => l1
  (refine feed (row_fin hG F9 N9 l1) ?_; refine x0_3 ?_; intro j1 j2 j3)
  exact h _ _ _ _ _ _ F9 j1 j2 j3
end Gen4
section PureB
theorem nat_and_block (S st sh : Nat) : (S * 2 ^ sh) &&& ((2 ^ st - 1) * 2 ^ sh) = S % 2 ^ st * 2 ^ sh := by
  rw [← Nat.shiftLeft_eq, ← Nat.shiftLeft_eq, ← Nat.shiftLeft_and_distrib, Nat.and_two_pow_sub_one_eq_mod, Nat.shiftLeft_eq]
theorem nat_and_not {S st sh n : Nat} (hx : S * 2 ^ sh < 2 ^ n) (hm : (2 ^ st - 1) * 2 ^ sh < 2 ^ n) : (S * 2 ^ sh) &&& (2 ^ n - ((2 ^ st - 1) * 2 ^ sh + 1)) = S / 2 ^ st * 2 ^ st * 2 ^ sh := by
  refine Nat.eq_of_testBit_eq fun i => ?_
  rw [Nat.testBit_and, Nat.testBit_two_pow_sub_succ hm, ← Nat.shiftLeft_eq (S / 2 ^ st * 2 ^ st), ← Nat.shiftLeft_eq (S / 2 ^ st), ← Nat.shiftLeft_eq (2 ^ st - 1)]
  have hb : (S * 2 ^ sh).testBit i = true → i < n := fun h => by
    refine Nat.lt_of_not_le fun hn => ?_
    rw [Nat.testBit_lt_two_pow (Nat.lt_of_lt_of_le hx (Nat.pow_le_pow_right (by decide) hn))] at h
    cases h
  rw [← Nat.shiftLeft_eq] at hb ⊢
  simp only [Nat.testBit_shiftLeft, Nat.testBit_div_two_pow, Nat.testBit_two_pow_sub_one] at hb ⊢
  by_cases h1 : sh ≤ i
  · by_cases h2 : st ≤ i - sh
    · have e : i - sh - st + st = i - sh := Nat.sub_add_cancel h2
      simp only [h1, h2, decide_true, Bool.true_and, e, ge_iff_le]
      have : ¬ i - sh < st := Nat.not_lt.mpr h2
      simp only [this, decide_false, Bool.not_false, Bool.and_true]
      cases hz : S.testBit (i - sh) with
      | false => rfl
      | true =>
        have := hb (by simp [h1, hz])
        simp [this]
    · have h3 : i - sh < st := Nat.lt_of_not_le h2
      simp [h1, h2, h3]
  · simp [h1]
theorem pow_cast (k : Nat) : ((2 : Int) ^ k) = ((2 ^ k : Nat) : Int) := (kbt_cast k).symm
theorem mskI_nat (st sh : Nat) : mskI st sh = (((2 ^ st - 1) * 2 ^ sh : Nat) : Int) := by
  have h := Nat.one_le_two_pow (n := st)
  unfold mskI
  rw [Int.toNat_natCast, Int.toNat_natCast, Int.one_mul, pow_cast, pow_cast, Int.natCast_mul, Int.natCast_sub h]; rfl
theorem and_msk (S st sh : Nat) : Builtin.bitAnd ((S * 2 ^ sh : Nat) : Int) (mskI st sh) = ((S % 2 ^ st * 2 ^ sh : Nat) : Int) := by
  rw [mskI_nat, bitAnd_pp (Int.natCast_nonneg _) (Int.natCast_nonneg _), Int.toNat_natCast, Int.toNat_natCast, nat_and_block]
theorem hlB_eq (S st sh : Nat) : hlB st sh ((S * 2 ^ sh : Nat) : Int) = decide (S % 2 ^ st ≠ 0) := by
  unfold hlB
  rw [and_msk]
  have h := Nat.one_le_two_pow (n := sh)
  by_cases c : S % 2 ^ st = 0
  · simp [c]
  · have : S % 2 ^ st * 2 ^ sh ≠ 0 := Nat.mul_ne_zero c (by lia)
    simp only [ne_eq, c, not_false_eq_true, decide_true, bne_iff_ne]
    lia
theorem huB_eq (E st sh : Nat) : huB st sh ((E * 2 ^ sh : Nat) : Int) = decide (E % 2 ^ st ≠ 2 ^ st - 1) := by
  unfold huB
  rw [and_msk, mskI_nat]
  have h : 0 < 2 ^ sh := Nat.one_le_two_pow (n := sh)
  by_cases c : E % 2 ^ st = 2 ^ st - 1
  · simp [c]
  · simp only [ne_eq, c, not_false_eq_true, decide_true, bne_iff_ne]
    intro q
    exact c (Nat.eq_of_mul_eq_mul_right h (Int.ofNat.inj q))
theorem nm_nat {size st sh : Nat} (hm : (2 ^ st - 1) * 2 ^ sh < 2 ^ (size + 1)) : nmI size st sh = ((2 ^ (size + 1) - ((2 ^ st - 1) * 2 ^ sh + 1) : Nat) : Int) := by
  unfold nmI
  have e1 : ((size : Int) + 1).toNat = size + 1 := by lia
  rw [mskI_nat, e1, Int.one_mul, kbt_mask, pow_cast]
  generalize (2 ^ st - 1) * 2 ^ sh = k at *
  generalize 2 ^ (size + 1) = P at *
  have e2 : Builtin.bitNot (k : Int) = ((P - (k + 1) : Nat) : Int) - (P : Int) := by
    show -(k : Int) - 1 = _
    lia
  rw [e2, Int.sub_emod_right]
  exact Int.emod_eq_of_lt (by lia) (by lia)
theorem and_nm {S size st sh : Nat} (hx : S * 2 ^ sh < 2 ^ (size + 1)) (hm : (2 ^ st - 1) * 2 ^ sh < 2 ^ (size + 1)) : Builtin.bitAnd ((S * 2 ^ sh : Nat) : Int) (nmI size st sh) = ((S / 2 ^ st * 2 ^ st * 2 ^ sh : Nat) : Int) := by
  rw [nm_nat hm, bitAnd_pp (Int.natCast_nonneg _) (Int.natCast_nonneg _), Int.toNat_natCast, Int.toNat_natCast, nat_and_not hx hm]
theorem nsI_eq {S size st sh : Nat} (hst : 0 < st) (hx : (S + 2 ^ st) * 2 ^ sh < 2 ^ (size + 1)) : nsI size st sh ((S * 2 ^ sh : Nat) : Int) = (((S + 2 ^ st - 1) / 2 ^ st * 2 ^ st * 2 ^ sh : Nat) : Int) := by
  have hb : 1 < 2 ^ st := Nat.one_lt_two_pow (by lia)
  have hm : (2 ^ st - 1) * 2 ^ sh < 2 ^ (size + 1) := Nat.lt_of_le_of_lt (Nat.mul_le_mul_right _ (by lia)) hx
  have hx' : S * 2 ^ sh < 2 ^ (size + 1) := Nat.lt_of_le_of_lt (Nat.mul_le_mul_right _ (by lia)) hx
  unfold nsI
  rw [hlB_eq, up_div hb]
  by_cases c : S % 2 ^ st = 0
  · simp only [c, ne_eq, not_true_eq_false, decide_false, Bool.false_eq_true, if_false, if_true]
    exact and_nm hx' hm
  · have e : ((sh : Int) + (st : Int)).toNat = sh + st := by lia
    simp only [c, ne_eq, not_false_eq_true, decide_true, if_true, if_false, e]
    have e2 : ((S * 2 ^ sh : Nat) : Int) + 1 * 2 ^ (sh + st) = (((S + 2 ^ st) * 2 ^ sh : Nat) : Int) := by
      rw [Int.one_mul, pow_cast, ← Int.natCast_add]
      congr 1
      rw [Nat.add_mul, Nat.pow_add, Nat.mul_comm (2 ^ sh)]
    rw [e2, and_nm hx hm, Nat.add_div_right _ (by lia)]
theorem neI_eq {E size st sh : Nat} (hst : 0 < st) (hx : E * 2 ^ sh < 2 ^ (size + 1)) (hm : (2 ^ st - 1) * 2 ^ sh < 2 ^ (size + 1)) (hE : 2 ^ st ≤ E + 1) : neI size st sh ((E * 2 ^ sh : Nat) : Int) = ((((E + 1) / 2 ^ st - 1) * 2 ^ st * 2 ^ sh : Nat) : Int) := by
  have hb : 1 < 2 ^ st := Nat.one_lt_two_pow (by lia)
  unfold neI
  rw [huB_eq, succ_div hb]
  by_cases c : E % 2 ^ st = 2 ^ st - 1
  · simp only [c, ne_eq, not_true_eq_false, decide_false, Bool.false_eq_true, if_false, if_true, Nat.add_sub_cancel]
    exact and_nm hx hm
  · have e : ((sh : Int) + (st : Int)).toNat = sh + st := by lia
    have hE' : 2 ^ st ≤ E := by
      refine Nat.le_of_not_lt fun q => c ?_
      rw [Nat.mod_eq_of_lt (by lia)]; lia
    simp only [c, ne_eq, not_false_eq_true, decide_true, if_true, if_false, e]
    have e2 : ((E * 2 ^ sh : Nat) : Int) - 1 * 2 ^ (sh + st) = (((E - 2 ^ st) * 2 ^ sh : Nat) : Int) := by
      have hle : 2 ^ st * 2 ^ sh ≤ E * 2 ^ sh := Nat.mul_le_mul_right _ hE'
      rw [Int.one_mul, pow_cast, Nat.pow_add, Nat.mul_comm (2 ^ sh), Nat.sub_mul, Int.natCast_sub hle]
    have hx' : (E - 2 ^ st) * 2 ^ sh < 2 ^ (size + 1) := Nat.lt_of_le_of_lt (Nat.mul_le_mul_right _ (by lia)) hx
    rw [e2, and_nm hx' hm, Nat.div_eq_sub_div (b := 2 ^ st) (by lia) hE', Nat.add_sub_cancel]
theorem or_low (S sh : Nat) : Builtin.bitOr ((S * 2 ^ sh : Nat) : Int) (1 * 2 ^ (sh : Int).toNat - 1) = (((S + 1) * 2 ^ sh : Nat) : Int) - 1 := by
  rw [bitOr_and, Int.toNat_natCast, Int.one_mul, kbt_mask, pow_cast, ← Int.natCast_emod, Nat.mul_mod_left, Nat.add_mul]
  lia
theorem or_msk (S st sh : Nat) : Builtin.bitOr ((S * 2 ^ sh : Nat) : Int) (mskI st sh) = (((S / 2 ^ st * 2 ^ st + (2 ^ st - 1)) * 2 ^ sh : Nat) : Int) := by
  rw [bitOr_and, and_msk, mskI_nat]
  have h := Nat.div_add_mod' S (2 ^ st)
  have e : S * 2 ^ sh = S / 2 ^ st * 2 ^ st * 2 ^ sh + S % 2 ^ st * 2 ^ sh := by rw [← Nat.add_mul, h]
  rw [Nat.add_mul]
  lia
end PureB
section Gen5
noncomputable def tE (i : Nat) : PySem.Expr := match (gw[i]? : Option Stmt) with
  | some (Stmt.If t _ _ _) => t
  | _ => default
noncomputable def q8s : {x : PySem.Expr // x = tE 8} := ⟨_, by conv => rhs; whnf⟩
noncomputable def q9s : {x : PySem.Expr // x = tE 9} := ⟨_, by conv => rhs; whnf⟩
noncomputable def q10s : {x : PySem.Expr // x = tE 10} := ⟨_, by conv => rhs; whnf⟩
section
variable {w : World} {A A₀ : Around} {base g hs : Heap} {fr : List Env} {L' : Nat} {m : Str → Option Value} {oC : Obj} {ps : Array Value} {r : Led} {s : Shared} {E : Value → Shared → Prop}
    {size st sh a b : Int} {t1 t2 t3 t4 t5 t6 t7 t8 t9 t10 : Tok} {f c' : Addr} {pm ctv : Value}
theorem test8 {Q : Bool → Shared → Prop} (G : GG w base A₀ fr L' oC ps g hs r s.heap) (F : Fr g L' s.heap (over (gnames2 L' size st sh a b f t1 t2 t3 t4 t6 t7 t8 t9 t10) m)) (C : GenC w A fr L' oC sh t5 r f c' pm ctv)
    (h : ∀ tk', Q (decide (size ≤ sh + st) || decide (neI size st sh b < nsI size st sh a)) ⟨s.heap, s.gens, s.drawn, tk', s.os⟩) :
    wpAny (model prog w) A (isTrue q8s.1 (envG L') (eval q8s.1 (envG L'))) Q E s := by
  obtain ⟨hA, hh, hd, hu, hC, s0, s1, hf, hc⟩ := C
  have hG := G
  obtain ⟨B, X, ⟨lo, mean, mg, mb, T⟩, Cd, N, kp, sz, r1, r2, al, l51⟩ := G
  dsimp only [over, gnames2, gnames] at F
  dsimp only [q8s, envG]
  generalize neI size st sh b = nev at *
  generalize nsI size st sh a = nsv at *
  k_steps
  · rename size ≤ sh + st => c1
    have z := h (s.toks + 1)
    rw [decide_eq_true c1, Bool.true_or] at z
    exact z
  · rename ¬ size ≤ sh + st => c1
    rename nev < nsv => c2
    have z := h (s.toks + 1)
    rw [decide_eq_true c2, Bool.or_true] at z
    exact z
  · rename ¬ size ≤ sh + st => c1
    rename ¬ nev < nsv => c2
    have z := h (s.toks + 1)
    rw [decide_eq_false c1, decide_eq_false c2, Bool.or_false] at z
    exact z
theorem test9 {Q : Bool → Shared → Prop} (G : GG w base A₀ fr L' oC ps g hs r s.heap) (F : Fr g L' s.heap (over (gnames2 L' size st sh a b f t1 t2 t3 t4 t6 t7 t8 t9 t10) m)) (C : GenC w A fr L' oC sh t5 r f c' pm ctv)
    (h : ∀ tk', Q (hlB st sh a) ⟨s.heap, s.gens, s.drawn, tk', s.os⟩) :
    wpAny (model prog w) A (isTrue q9s.1 (envG L') (eval q9s.1 (envG L'))) Q E s := by
  obtain ⟨hA, hh, hd, hu, hC, s0, s1, hf, hc⟩ := C
  obtain ⟨B, X, ⟨lo, mean, mg, mb, T⟩, Cd, N, kp, sz, r1, r2, al, l51⟩ := G
  dsimp only [over, gnames2, gnames] at F
  dsimp only [q9s, envG]
  generalize hlB st sh a = x at *
  k_steps
  exact h s.toks
theorem test10 {Q : Bool → Shared → Prop} (G : GG w base A₀ fr L' oC ps g hs r s.heap) (F : Fr g L' s.heap (over (gnames2 L' size st sh a b f t1 t2 t3 t4 t6 t7 t8 t9 t10) m)) (C : GenC w A fr L' oC sh t5 r f c' pm ctv)
    (h : ∀ tk', Q (huB st sh b) ⟨s.heap, s.gens, s.drawn, tk', s.os⟩) :
    wpAny (model prog w) A (isTrue q10s.1 (envG L') (eval q10s.1 (envG L'))) Q E s := by
  obtain ⟨hA, hh, hd, hu, hC, s0, s1, hf, hc⟩ := C
  obtain ⟨B, X, ⟨lo, mean, mg, mb, T⟩, Cd, N, kp, sz, r1, r2, al, l51⟩ := G
  dsimp only [over, gnames2, gnames] at F
  dsimp only [q10s, envG]
  generalize huB st sh b = x at *
  k_steps
  exact h s.toks
theorem gen_tail {Q : Flow → Shared → Prop} (G : GG w base A₀ fr L' oC ps g hs r s.heap) (F : Fr g L' s.heap (over (gnames2 L' size st sh a b f t1 t2 t3 t4 t6 t7 t8 t9 t10) m)) (C : GenC w A fr L' oC sh t5 r f c' pm ctv)
    (h : ∀ h' tk' oC' t5' mm, oC'.data = .cell (some (.int (sh + st) t5')) → Fr g L' h' mm → mm (Str.ofString "intsize") = some (.int size t1) → mm (Str.ofString "step") = some (.int st t2) → mm (Str.ofString "start") = some (.int (nsI size st sh a) t7) → mm (Str.ofString "end") = some (.int (neI size st sh b) t10) →
      GG w base A₀ fr L' oC' ps g hs r h' → Q .next ⟨h', s.gens, s.drawn, tk', s.os⟩) :
    wpAny (model prog w) A (execs (gw.drop 11) (envG L')) Q E s := by
  obtain ⟨hA, hh, hd, hu, hC, s0, s1, hf, hc⟩ := C
  obtain ⟨B, X, ⟨lo, mean, mg, mb, T⟩, Cd, N, kp, sz, r1, r2, al, l51⟩ := G
  have l51' : (51 : Nat) < L' := l51
  have n51 : (L' + 1 : Nat) ≠ 51 := by lia
  dsimp only [over, gnames2, gnames] at F
  dsimp only [gw, gws, List.drop, envG]
  k_steps
  rename Fr g L' _ _ => F9
  rename News g L' _ _ => N9
  rename (_ = Data.cell _) => d9
  exact h _ _ _ _ _ d9 F9 rfl rfl rfl rfl ⟨B, X, ⟨_, _, _, _, T⟩, Cd, N9, F9.keep, sz, r1, r2, al, l51⟩
end
end Gen5
section Gen6
/-- a row in numbers -/
noncomputable def rowI (st : Nat) (r : Nat × Nat × Nat) : Int × Int × Int := (((r.1 * 2 ^ (r.2.2 * st) : Nat) : Int), (((r.2.1 + 1) * 2 ^ (r.2.2 * st) : Nat) : Int) - 1, ((r.2.2 * st : Nat) : Int))
noncomputable def Kept (L' : Nat) (h h' : Heap) : Prop := ∀ b o, b ≠ L' → b ≠ L' + 1 → b ≠ 51 → h.get? b = some o → h'.get? b = some o
/-- what a yield shows, n yields left behind it -/
noncomputable def GY (w : World) (base : Heap) (A : Around) (fr : List Env) (L' : Nat) (rows : List (Nat × Nat × Nat)) (st : Nat) : Protocol := fun n s₀ v s' kap =>
  s'.gens = s₀.gens ∧ s'.drawn = s₀.drawn ∧ s'.os = s₀.os ∧ Kept L' s₀.heap s'.heap ∧
  ∃ oF oC ps ex tp a1 a2 a3 row, v = .ref tp ∧ s₀.heap.get? tp = none ∧ rows[rows.length - (n + 1)]? = some row ∧ s'.heap.IsTuple tp #[.int (rowI st row).1 a1, .int (rowI st row).2.1 a2, .int (rowI st row).2.2 a3] ∧
    s'.heap.get? L' = some oF ∧ (∃ es n, oF.data = .dict es n) ∧ s'.heap.get? (L' + 1) = some oC ∧ (∃ v, oC.data = .cell v) ∧ s'.heap.get? 51 = some (tabObj ps) ∧ (∀ p ∈ ex, s'.heap.get? p.1 = some p.2 ∧ L' < (p.1 : Nat) ∧ p.1 ≠ L' + 1 ∧ p.1 ≠ 51) ∧
    ∀ s'', GR w base A fr L' oF oC ps ex s''.heap → kap (.send .none) s''
noncomputable def GP (L' : Nat) (n : Nat) (s₀ s₁ : Shared) : Prop := n = 0 ∧ s₁.gens = s₀.gens ∧ s₁.drawn = s₀.drawn ∧ s₁.os = s₀.os ∧ Kept L' s₀.heap s₁.heap ∧ ∃ ps, s₁.heap.get? 51 = some (tabObj ps)
noncomputable abbrev GEd (L' : Nat) : GenEnd := fun n s₀ r s₁ => r = .ok (.ret .none) ∧ GP L' n s₀ s₁
noncomputable def gts : {x : PySem.Expr // x = (match b3 with | [_, .While t _ _ _] => t | _ => default)} := ⟨_, by conv => rhs; whnf⟩
noncomputable abbrev gc (L' : Nat) : Code := .whileLoop gts.1 gw [] (envG L')
theorem testT {w : World} {A : Around} {s : Shared} {E : Value → Shared → Prop} {Q : Bool → Shared → Prop} {L' : Nat} (h : Q true s) : wpAny (model prog w) A (isTrue gts.1 (envG L') (eval gts.1 (envG L'))) Q E s := by
  dsimp only [gts, envG]
  k_steps
  exact h
theorem gw8 : ∃ p1 p2 p3 p4 p5 p6 p7 p8 p9 p10, gw.drop 8 = .If q8s.1 [.Expr (.Yield (some y8s.1) p1) p2, .Break p3] [] p4 :: .If q9s.1 [.Expr (.Yield (some y9s.1) p5) p6] [] p7 :: .If q10s.1 [.Expr (.Yield (some y10s.1) p8) p9] [] p10 :: gw.drop 11 := ⟨_, _, _, _, _, _, _, _, _, _, rfl⟩
theorem GG.kept {w : World} {A : Around} {base g hs h : Heap} {fr : List Env} {L' : Nat} {oC : Obj} {ps : Array Value} {r : Led} (G : GG w base A fr L' oC ps g hs r h) : Kept L' hs h := fun b o n1 n2 n3 e =>
  (G.all b o n1 n2 n3 e).elim (fun q => G.keep b o q) fun q => (G.N _ (.tail _ (.tail _ q))).1
end Gen6
section Gen7
theorem gr_fr {w : World} {base : Heap} {A₀ : Around} {fr : List Env} {L' : Nat} {oF oC : Obj} {ps : Array Value} {ex : Led} {h : Heap} {m : Str → Option Value} (R : GR w base A₀ fr L' oF oC ps ex h) (hm : NsO oF m) :
    ∃ g r, Fr g L' h m ∧ GG w base A₀ fr L' oC ps g h r h ∧ ∀ p ∈ ex, p ∈ r := by
  obtain ⟨hF, g, r, G, hex⟩ := R
  exact y2_1 g r (ya3 ⟨hm h L' hF, G.keep, G.size⟩ G hex)
theorem gy_of {w : World} {base g : Heap} {A₀ : Around} {fr : List Env} {L' st n : Nat} {oC : Obj} {ps : Array Value} {r ex : Led} {m : Str → Option Value} {s₀ s' : Shared} {rows : List (Nat × Nat × Nat)} {row : Nat × Nat × Nat} {tp : Addr} {a1 a2 a3 : Tok} {kap : Resume → Shared → Prop}
    (G : GG w base A₀ fr L' oC ps g s₀.heap r s'.heap) (F : Fr g L' s'.heap m) (hg : s'.gens = s₀.gens) (hd : s'.drawn = s₀.drawn) (ho : s'.os = s₀.os) (hn : s₀.heap.get? tp = none) (hrow : rows[rows.length - (n + 1)]? = some row)
    (ht : s'.heap.IsTuple tp #[.int (rowI st row).1 a1, .int (rowI st row).2.1 a2, .int (rowI st row).2.2 a3]) (hex : ∀ p ∈ ex, p ∈ r ∧ L' < (p.1 : Nat))
    (hC : ∃ v, oC.data = .cell v) (hk : ∀ s'' g2 r2, Fr g2 L' s''.heap m → GG w base A₀ fr L' oC ps g2 s''.heap r2 s''.heap → (∀ p ∈ ex, p ∈ r2) → kap (.send .none) s'') : GY w base A₀ fr L' rows st n s₀ (.ref tp) s' kap := by
  (refine feed (fr_nsO F) ?_; refine x1_1 ?_; intro oF; refine x0_3 ?_; intro hoF hns hFd)
  refine ⟨hg, hd, ho, G.kept, oF, oC, ps, ex, tp, a1, a2, a3, row, rfl, hn, hrow, ht, hoF, hFd, (G.N _ (.head _)).1, hC, (G.N _ (.tail _ (.head _))).1, fun p hp => ⟨(G.N _ (.tail _ (.tail _ (hex p hp).1))).1, (hex p hp).2, G.r1 _ (hex p hp).1, G.r2 _ (hex p hp).1⟩, fun s'' hR => ?_⟩
  (refine feed (gr_fr hR hns) ?_; refine x2_1 ?_; intro g2 r2; refine x0_3 ?_; intro F2 G2 x2)
  exact hk s'' g2 r2 F2 G2 x2
structure LoopC (w : World) (base : Heap) (A₀ AG : Around) (fr : List Env) (L' : Nat) (rows : List (Nat × Nat × Nat)) (st : Nat) (fs : List Frame) : Prop where
  hA : (AG.over (gc L') fs).frames = some (envG L' :: fr)
  hh : (AG.over (gc L') fs).handled = none
  hd : (AG.over (gc L') fs).depth ≤ 310
  hu : (AG.over (gc L') fs).units ≤ 100
  hfs : splitAtGen fs = none
  hfg : fs.any Frame.guarded = false
  fin : ∀ s₀ s', GP L' 0 s₀ s' → Seg (model prog w) AG (GEd L') (GY w base A₀ fr L' rows st) 0 s₀ (gc L') (.pure (.done .next)) fs s'
section
variable {w : World} {base g : Heap} {A₀ AG : Around} {fr : List Env} {L' st n : Nat} {oC : Obj} {r : Led} {m : Str → Option Value} {s₀ s : Shared} {rows : List (Nat × Nat × Nat)} {row : Nat × Nat × Nat} {fs : List Frame}
  {size sti sh a b : Int} {t1 t2 t3 t4 t5 t6 t7 t8 t9 t10 : Tok} {f c' : Addr} {pm ctv : Value} {HB : Value → Sem Fin}
noncomputable abbrev KB (L' : Nat) : Flow → Sem Fin := fun f => match f with
  | .next | .cont => .pure (.again (gc L'))
  | .brk => .pure (.done .next)
  | .ret v => .pure (.done (.ret v))
theorem seg_final (LC : LoopC w base A₀ AG fr L' rows st fs) (G : GG w base A₀ fr L' oC (tab1 c') g s₀.heap r s.heap) (F : Fr g L' s.heap (over (gnames2 L' size sti sh a b f t1 t2 t3 t4 t6 t7 t8 t9 t10) m)) (C : GenC w (AG.over (gc L') fs) fr L' oC sh t5 r f c' pm ctv)
    (hg : s.gens = s₀.gens) (hd : s.drawn = s₀.drawn) (ho : s.os = s₀.os) (hrow : rows[rows.length - 1]? = some row) (e1 : a = (rowI st row).1) (e2 : Builtin.bitOr b (1 * 2 ^ sh.toNat - 1) = (rowI st row).2.1) (e3 : sh = (rowI st row).2.2) {p1 p2 p3 : Pos} {KK : Flow → Sem Fin} (hK : KK .brk = .pure (.done .next)) :
    Seg (model prog w) AG (GEd L') (GY w base A₀ fr L' rows st) 1 s₀ (gc L') ((execs [.Expr (.Yield (some y8s.1) p1) p2, .Break p3] (envG L')).wrap KK HB id id) fs s := by
  refine seg_execs_cons (seg_Expr_Yield LC.hfs rfl LC.hfg (row8 G F C fun h' tk' tp a1 a2 a3 F' G' ht hn kap hk => ?_))
  rw [e1, e2] at ht
  rw [show (Value.int sh a3) = Value.int (rowI st row).2.2 a3 by rw [← e3]] at ht
  refine gy_of (s' := ⟨h', s.gens, s.drawn, tk', s.os⟩) G' F' hg hd ho hn hrow ht (ex := []) (fun _ h => nomatch h) ⟨_, C.hC⟩ fun s'' g2 r2 F2 G2 _ => hk .none s'' ?_
  show Seg _ _ _ _ _ _ _ ((execs [.Break p3] (envG L')).wrap KK HB id id) fs s''
  refine seg_execs_cons (seg_wrap (wpAny_Break ?_))
  show Seg _ _ _ _ _ _ _ (KK .brk) fs s''
  rw [hK]
  exact LC.fin s'' s'' ⟨rfl, rfl, rfl, rfl, fun _ _ _ _ _ e => e, _, (G2.N _ (.tail _ (.head _))).1⟩
/-- the row at the seg_up end -/
theorem seg_up (LC : LoopC w base A₀ AG fr L' rows st fs) (G : GG w base A₀ fr L' oC (tab1 c') g s₀.heap r s.heap) (F : Fr g L' s.heap (over (gnames2 L' size sti sh a b f t1 t2 t3 t4 t6 t7 t8 t9 t10) m)) (C : GenC w (AG.over (gc L') fs) fr L' oC sh t5 r f c' pm ctv) (lf : L' < (f : Nat)) (lc : L' < (c' : Nat))
    (hg : s.gens = s₀.gens) (hd : s.drawn = s₀.drawn) (ho : s.os = s₀.os) (hrow : huB sti sh b = true → rows[rows.length - (n + 1)]? = some row ∧ Builtin.bitAnd b (nmI size sti sh) = (rowI st row).1 ∧ Builtin.bitOr b (1 * 2 ^ sh.toNat - 1) = (rowI st row).2.1 ∧ sh = (rowI st row).2.2) {rest : List Stmt} {p1 p2 p3 : Pos}
    (hrest : ∀ s₀ s g r, GG w base A₀ fr L' oC (tab1 c') g s₀.heap r s.heap → Fr g L' s.heap (over (gnames2 L' size sti sh a b f t1 t2 t3 t4 t6 t7 t8 t9 t10) m) → GenC w (AG.over (gc L') fs) fr L' oC sh t5 r f c' pm ctv → s.gens = s₀.gens → s.drawn = s₀.drawn → s.os = s₀.os →
      Seg (model prog w) AG (GEd L') (GY w base A₀ fr L' rows st) n s₀ (gc L') ((execs rest (envG L')).wrap (KB L') HB id id) fs s) :
    Seg (model prog w) AG (GEd L') (GY w base A₀ fr L' rows st) (if huB sti sh b = true then n + 1 else n) s₀ (gc L') ((execs (.If q10s.1 [.Expr (.Yield (some y10s.1) p1) p2] [] p3 :: rest) (envG L')).wrap (KB L') HB id id) fs s := by
  refine seg_execs_cons (seg_If (test10 G F C fun tk' => ?_))
  cases e : huB sti sh b with
  | false =>
    simp only [Bool.false_eq_true, if_false]
    exact hrest s₀ ⟨s.heap, s.gens, s.drawn, tk', s.os⟩ g r G F C hg hd ho
  | true =>
    simp only [if_true]
    (refine feed (hrow e) ?_; refine x0_4 ?_; intro h0 e1 e2 e3)
    refine seg_execs_cons (seg_Expr_Yield LC.hfs rfl LC.hfg (row10 (s := ⟨s.heap, s.gens, s.drawn, tk', s.os⟩) G F C fun h' tk' tp a1 a2 a3 F' G' ht hn kap hk => ?_))
    rw [e2, e1] at ht
    rw [show (Value.int sh a3) = Value.int (rowI st row).2.2 a3 by rw [← e3]] at ht
    (refine feed (C.hc) ?_; refine x3_1 ?_; intro oc vs tq; refine x0_3 ?_; intro k1 k2 k3)
    refine gy_of (s' := ⟨h', s.gens, s.drawn, tk', s.os⟩) G' F' hg hd ho hn h0 ht (ex := [(f, lamObj L' pm c' ctv), (c', oc)]) (fun p hp => ?_) ⟨_, C.hC⟩ fun s'' g2 r2 F2 G2 x2 => hk .none s'' ?_
    · rcases List.mem_cons.mp hp with rfl | hp
      · exact ⟨C.hf, lf⟩
      rcases List.mem_cons.mp hp with rfl | hp
      · exact ⟨k1, lc⟩
      · cases hp
    · exact hrest s'' s'' g2 r2 G2 F2 ⟨C.hA, C.hh, C.hd, C.hu, C.hC, C.s0, C.s1, x2 _ (.head _), oc, vs, tq, x2 _ (.tail _ (.head _)), k2, k3⟩ rfl rfl rfl
/-- the row at the seg_low end -/
theorem seg_low (LC : LoopC w base A₀ AG fr L' rows st fs) (G : GG w base A₀ fr L' oC (tab1 c') g s₀.heap r s.heap) (F : Fr g L' s.heap (over (gnames2 L' size sti sh a b f t1 t2 t3 t4 t6 t7 t8 t9 t10) m)) (C : GenC w (AG.over (gc L') fs) fr L' oC sh t5 r f c' pm ctv) (lf : L' < (f : Nat)) (lc : L' < (c' : Nat))
    (hg : s.gens = s₀.gens) (hd : s.drawn = s₀.drawn) (ho : s.os = s₀.os) (hrow : hlB sti sh a = true → rows[rows.length - (n + 1)]? = some row ∧ a = (rowI st row).1 ∧ Builtin.bitOr (Builtin.bitOr a (mskI sti sh)) (1 * 2 ^ sh.toNat - 1) = (rowI st row).2.1 ∧ sh = (rowI st row).2.2) {rest : List Stmt} {p1 p2 p3 : Pos}
    (hrest : ∀ s₀ s g r, GG w base A₀ fr L' oC (tab1 c') g s₀.heap r s.heap → Fr g L' s.heap (over (gnames2 L' size sti sh a b f t1 t2 t3 t4 t6 t7 t8 t9 t10) m) → GenC w (AG.over (gc L') fs) fr L' oC sh t5 r f c' pm ctv → s.gens = s₀.gens → s.drawn = s₀.drawn → s.os = s₀.os →
      Seg (model prog w) AG (GEd L') (GY w base A₀ fr L' rows st) n s₀ (gc L') ((execs rest (envG L')).wrap (KB L') HB id id) fs s) :
    Seg (model prog w) AG (GEd L') (GY w base A₀ fr L' rows st) (if hlB sti sh a = true then n + 1 else n) s₀ (gc L') ((execs (.If q9s.1 [.Expr (.Yield (some y9s.1) p1) p2] [] p3 :: rest) (envG L')).wrap (KB L') HB id id) fs s := by
  refine seg_execs_cons (seg_If (test9 G F C fun tk' => ?_))
  cases e : hlB sti sh a with
  | false =>
    simp only [Bool.false_eq_true, if_false]
    exact hrest s₀ ⟨s.heap, s.gens, s.drawn, tk', s.os⟩ g r G F C hg hd ho
  | true =>
    simp only [if_true]
    (refine feed (hrow e) ?_; refine x0_4 ?_; intro h0 e1 e2 e3)
    refine seg_execs_cons (seg_Expr_Yield LC.hfs rfl LC.hfg (row9 (s := ⟨s.heap, s.gens, s.drawn, tk', s.os⟩) G F C fun h' tk' tp a1 a2 a3 F' G' ht hn kap hk => ?_))
    rw [e2, e1] at ht
    rw [show (Value.int sh a3) = Value.int (rowI st row).2.2 a3 by rw [← e3]] at ht
    (refine feed (C.hc) ?_; refine x3_1 ?_; intro oc vs tq; refine x0_3 ?_; intro k1 k2 k3)
    refine gy_of (s' := ⟨h', s.gens, s.drawn, tk', s.os⟩) G' F' hg hd ho hn h0 ht (ex := [(f, lamObj L' pm c' ctv), (c', oc)]) (fun p hp => ?_) ⟨_, C.hC⟩ fun s'' g2 r2 F2 G2 x2 => hk .none s'' ?_
    · rcases List.mem_cons.mp hp with rfl | hp
      · exact ⟨C.hf, lf⟩
      rcases List.mem_cons.mp hp with rfl | hp
      · exact ⟨k1, lc⟩
      · cases hp
    · exact hrest s'' s'' g2 r2 G2 F2 ⟨C.hA, C.hh, C.hd, C.hu, C.hC, C.s0, C.s1, x2 _ (.head _), oc, vs, tq, x2 _ (.tail _ (.head _)), k2, k3⟩ rfl rfl rfl
end
end Gen7
section Gen8
theorem suff_at {α : Type} {rows l : List α} {x : α} (h : x :: l <:+ rows) : rows[rows.length - (l.length + 1)]? = some x := by
  (revert h; refine x1_1 ?_; intro pre; intro zz9; subst zz9)
  simp
section
variable {w : World} {base : Heap} {A₀ AG : Around} {fr : List Env} {L' st size : Nat} {rows : List (Nat × Nat × Nat)} {fs : List Frame}
/-- a turn of the loop up to its test -/
theorem gen_turn (LC : LoopC w base A₀ AG fr L' rows st fs) (hst : 0 < st) (hst2 : st ≤ 16) (hsz : size ≤ 64) {n k : Nat} {a b : Int} {s₀ s : Shared} {g : Heap} {r : Led} {m : Str → Option Value} {oC : Obj} {ps : Array Value} {t1 t2 t3 t4 t5 : Tok} (hk : k * st ≤ 64)
    (G : GG w base A₀ fr L' oC ps g s₀.heap r s.heap) (F : Fr g L' s.heap m) (hC : oC.data = .cell (some (.int ((k * st : Nat) : Int) t5)))
    (m1 : m (Str.ofString "intsize") = some (.int (size : Int) t1)) (m2 : m (Str.ofString "step") = some (.int (st : Int) t2)) (m3 : m (Str.ofString "start") = some (.int a t3)) (m4 : m (Str.ofString "end") = some (.int b t4)) (hT : TabS L' ps r)
    (h : ∀ HB KK h' tk' r' f c' pm ctv t6 t7 t8 t9 t10 mm p1 p2 p3, KK .brk = .pure (.done .next) → GG w base A₀ fr L' oC (tab1 c') g s₀.heap r' h' → Fr g L' h' (over (gnames2 L' (size : Int) (st : Int) ((k * st : Nat) : Int) a b f t1 t2 t3 t4 t6 t7 t8 t9 t10) mm) → GenC w (AG.over (gc L') fs) fr L' oC ((k * st : Nat) : Int) t5 r' f c' pm ctv → L' < (f : Nat) → L' < (c' : Nat) →
      if (decide ((size : Int) ≤ ((k * st : Nat) : Int) + (st : Int)) || decide (neI (size : Int) (st : Int) ((k * st : Nat) : Int) b < nsI (size : Int) (st : Int) ((k * st : Nat) : Int) a)) = true
        then Seg (model prog w) AG (GEd L') (GY w base A₀ fr L' rows st) n s₀ (gc L') ((execs [.Expr (.Yield (some y8s.1) p1) p2, .Break p3] (envG L')).wrap KK HB id id) fs ⟨h', s.gens, s.drawn, tk', s.os⟩
        else ∀ q1 q2 q3 q4 q5 q6, Seg (model prog w) AG (GEd L') (GY w base A₀ fr L' rows st) n s₀ (gc L') ((execs (.If q9s.1 [.Expr (.Yield (some y9s.1) q1) q2] [] q3 :: .If q10s.1 [.Expr (.Yield (some y10s.1) q4) q5] [] q6 :: gw.drop 11) (envG L')).wrap (KB L') HB id id) fs ⟨h', s.gens, s.drawn, tk', s.os⟩) :
    Seg (model prog w) AG (GEd L') (GY w base A₀ fr L' rows st) n s₀ (gc L') ((model prog w).den (gc L')) fs s := by
  refine seg_whileLoop (testT ?_)
  simp only [if_true]
  have e : execs gw (envG L') = execs (gw.take 6 ++ ((gw.drop 6).take 2 ++ gw.drop 8)) (envG L') := rfl
  rw [e]
  obtain ⟨p1, p2, p3, p4, p5, p6, p7, p8, p9, p10, e8⟩ := gw8
  refine seg_app (gen_head G F LC.hA LC.hh LC.hd LC.hu hC m1 m2 m3 m4 (by lia) (by lia) (by lia) (by lia) (by lia) (by lia) hT fun h1 tk1 r' f c' pm ctv t6 t8 t9 mm F1 G1 x1 x2 x3 x4 x5 => ?_)
  dsimp only
  refine seg_app (gen_next2 (s := ⟨h1, s.gens, s.drawn, tk1, s.os⟩) G1 F1 LC.hA LC.hh LC.hd LC.hu fun h2 tk2 t7 t10 F2 G2 => ?_)
  dsimp only
  have C : GenC w (AG.over (gc L') fs) fr L' oC ((k * st : Nat) : Int) t5 r' f c' pm ctv := ⟨LC.hA, LC.hh, LC.hd, LC.hu, hC, by lia, by lia, x2, x3⟩
  rw [e8]
  refine seg_execs_cons (seg_If (test8 (s := ⟨h2, s.gens, s.drawn, tk2, s.os⟩) G2 F2 C fun tk3 => ?_))
  have z := fun HB KK hK => h HB KK h2 tk3 r' f c' pm ctv t6 t7 t8 t9 t10 mm p1 p2 p3 hK G2 F2 C x4 x5
  cases hb : (decide ((size : Int) ≤ ((k * st : Nat) : Int) + (st : Int)) || decide (neI (size : Int) (st : Int) ((k * st : Nat) : Int) b < nsI (size : Int) (st : Int) ((k * st : Nat) : Int) a)) with
  | true =>
    simp only [hb, if_true] at z ⊢
    exact z _ _ rfl
  | false =>
    simp only [hb, Bool.false_eq_true, if_false] at z ⊢
    exact z _ (KB L') rfl _ _ _ _ _ _
theorem gen_loop (LC : LoopC w base A₀ AG fr L' rows st fs) (hst : 0 < st) (hst2 : st ≤ 16) (hsz : size ≤ 64) : ∀ (nl k S E : Nat) (s₀ s : Shared) (g : Heap) (r : Led) (m : Str → Option Value) (oC : Obj) (ps : Array Value) (t1 t2 t3 t4 t5 : Tok),
    (k + nl) * st < size → size ≤ (k + nl + 1) * st → S ≤ E → E * 2 ^ (k * st) < 2 ^ size → (2 ^ st) ^ nl ≤ E + 1 →
    GG w base A₀ fr L' oC ps g s₀.heap r s.heap → Fr g L' s.heap m → oC.data = .cell (some (.int ((k * st : Nat) : Int) t5)) →
    m (Str.ofString "intsize") = some (.int (size : Int) t1) → m (Str.ofString "step") = some (.int (st : Int) t2) → m (Str.ofString "start") = some (.int ((S * 2 ^ (k * st) : Nat) : Int) t3) → m (Str.ofString "end") = some (.int ((E * 2 ^ (k * st) : Nat) : Int) t4) →
    TabS L' ps r → s.gens = s₀.gens → s.drawn = s₀.drawn → s.os = s₀.os → rws (2 ^ st) nl k S E <:+ rows →
    Seg (model prog w) AG (GEd L') (GY w base A₀ fr L' rows st) (rws (2 ^ st) nl k S E).length s₀ (gc L') ((model prog w).den (gc L')) fs s := by
  have hb : 1 < 2 ^ st := Nat.one_lt_two_pow (by lia)
  intro nl
  induction nl with
  | zero =>
    intro k S E s₀ s g r m oC ps t1 t2 t3 t4 t5 z1 z2 hSE hE hp G F hC m1 m2 m3 m4 hT hg hd ho hr
    have e1 : k * st + st = (k + 0 + 1) * st := (Nat.succ_mul _ _).symm
    refine gen_turn LC hst hst2 hsz (by rw [Nat.add_zero] at z1; lia) G F hC m1 m2 m3 m4 hT fun HB KK h' tk' r' f c' pm ctv t6 t7 t8 t9 t10 mm p1 p2 p3 hK G' F' C lf lc => ?_
    have c : (size : Int) ≤ ((k * st : Nat) : Int) + (st : Int) := by lia
    rw [if_pos (by rw [decide_eq_true c, Bool.true_or])]
    exact seg_final (s := ⟨h', s.gens, s.drawn, tk', s.os⟩) (row := (S, E, k)) LC G' F' C hg hd ho (suff_at (l := []) hr) rfl (or_low E (k * st)) rfl hK
  | succ nl ih =>
    intro k S E s₀ s g r m oC ps t1 t2 t3 t4 t5 z1 z2 hSE hE hp G F hC m1 m2 m3 m4 hT hg hd ho hr
    have e1 : (k + 1) * st = k * st + st := Nat.succ_mul k st
    have e2 : (k + 1) * st ≤ (k + (nl + 1)) * st := Nat.mul_le_mul_right _ (by lia)
    have hbE : 2 ^ st ≤ E + 1 := Nat.le_trans (Nat.le_trans (Nat.le_of_eq (Nat.pow_one _).symm) (Nat.pow_le_pow_right (by lia) (by lia))) hp
    have hS : S * 2 ^ (k * st) < 2 ^ size := Nat.lt_of_le_of_lt (Nat.mul_le_mul_right _ hSE) hE
    have hpw : 2 ^ st * 2 ^ (k * st) ≤ 2 ^ size := by rw [← Nat.pow_add]; exact Nat.pow_le_pow_right (by decide) (by lia)
    have h2 : 2 ^ (size + 1) = 2 ^ size + 2 ^ size := by rw [Nat.pow_succ]; lia
    have hSx : (S + 2 ^ st) * 2 ^ (k * st) < 2 ^ (size + 1) := by rw [Nat.add_mul]; lia
    have hEx : E * 2 ^ (k * st) < 2 ^ (size + 1) := by lia
    have hmx : (2 ^ st - 1) * 2 ^ (k * st) < 2 ^ (size + 1) := by
      have := Nat.mul_le_mul_right (2 ^ (k * st)) (Nat.sub_le (2 ^ st) 1)
      lia
    have hns := nsI_eq (S := S) (size := size) (sh := k * st) hst hSx
    have hne := neI_eq (E := E) (size := size) (sh := k * st) hst hEx hmx hbE
    have hpos : 0 < 2 ^ st * 2 ^ (k * st) := Nat.mul_pos (by lia) (Nat.two_pow_pos _)
    have hq1 : 1 ≤ (E + 1) / 2 ^ st := (Nat.le_div_iff_mul_le (by lia)).mpr (by lia)
    have ht : (decide ((size : Int) ≤ ((k * st : Nat) : Int) + (st : Int)) || decide (neI (size : Int) (st : Int) ((k * st : Nat) : Int) ((E * 2 ^ (k * st) : Nat) : Int) < nsI (size : Int) (st : Int) ((k * st : Nat) : Int) ((S * 2 ^ (k * st) : Nat) : Int))) = decide ((E + 1) / 2 ^ st ≤ (S + 2 ^ st - 1) / 2 ^ st) := by
      rw [decide_eq_false (by lia), Bool.false_or, hns, hne]
      refine decide_eq_decide.mpr ?_
      rw [Int.ofNat_lt, Nat.mul_assoc, Nat.mul_assoc, Nat.mul_lt_mul_right hpos]
      lia
    have hrow : ∀ nm : Nat, rws (2 ^ st) (nl + 1) k S E = if (E + 1) / 2 ^ st ≤ (S + 2 ^ st - 1) / 2 ^ st then [(S, E, k)] else (if S % 2 ^ st = 0 then [] else [(S, S / 2 ^ st * 2 ^ st + (2 ^ st - 1), k)]) ++ ((if E % 2 ^ st = 2 ^ st - 1 then [] else [(E / 2 ^ st * 2 ^ st, E, k)]) ++ rws (2 ^ st) nl (k + 1) ((S + 2 ^ st - 1) / 2 ^ st) ((E + 1) / 2 ^ st - 1)) := fun _ => rfl
    rw [hrow 0] at hr ⊢
    refine gen_turn LC hst hst2 hsz (by lia) G F hC m1 m2 m3 m4 hT fun HB KK h' tk' r' f c' pm ctv t6 t7 t8 t9 t10 mm p1 p2 p3 hK G' F' C lf lc => ?_
    rw [ht]
    by_cases c : (E + 1) / 2 ^ st ≤ (S + 2 ^ st - 1) / 2 ^ st
    · rw [if_pos (decide_eq_true c)]
      rw [if_pos c] at hr ⊢
      exact seg_final (s := ⟨h', s.gens, s.drawn, tk', s.os⟩) (row := (S, E, k)) LC G' F' C hg hd ho (suff_at (l := []) hr) rfl (or_low E (k * st)) rfl hK
    rw [if_neg (by simp [c])]
    rw [if_neg c] at hr ⊢
    intro q1 q2 q3 q4 q5 q6
    -- the rows that follow
    generalize hRR : rws (2 ^ st) nl (k + 1) ((S + 2 ^ st - 1) / 2 ^ st) ((E + 1) / 2 ^ st - 1) = RR at hr ⊢
    have hlow := hlB_eq S st (k * st)
    have hup := huB_eq E st (k * st)
    have hl2 : (if E % 2 ^ st = 2 ^ st - 1 then [] else [(E / 2 ^ st * 2 ^ st, E, k)] ++ RR).length = (if E % 2 ^ st = 2 ^ st - 1 then [] else [(E / 2 ^ st * 2 ^ st, E, k)] ++ RR).length := rfl
    have l2 : ((if E % 2 ^ st = 2 ^ st - 1 then [] else [(E / 2 ^ st * 2 ^ st, E, k)]) ++ RR).length = if huB (st : Int) ((k * st : Nat) : Int) ((E * 2 ^ (k * st) : Nat) : Int) = true then RR.length + 1 else RR.length := by
      rw [hup]
      by_cases x : E % 2 ^ st = 2 ^ st - 1 <;> simp [x]
    have l1 : ((if S % 2 ^ st = 0 then [] else [(S, S / 2 ^ st * 2 ^ st + (2 ^ st - 1), k)]) ++ ((if E % 2 ^ st = 2 ^ st - 1 then [] else [(E / 2 ^ st * 2 ^ st, E, k)]) ++ RR)).length = if hlB (st : Int) ((k * st : Nat) : Int) ((S * 2 ^ (k * st) : Nat) : Int) = true then ((if E % 2 ^ st = 2 ^ st - 1 then [] else [(E / 2 ^ st * 2 ^ st, E, k)]) ++ RR).length + 1 else ((if E % 2 ^ st = 2 ^ st - 1 then [] else [(E / 2 ^ st * 2 ^ st, E, k)]) ++ RR).length := by
      rw [hlow]
      by_cases x : S % 2 ^ st = 0 <;> simp [x]
    have hr2 : ((if E % 2 ^ st = 2 ^ st - 1 then [] else [(E / 2 ^ st * 2 ^ st, E, k)]) ++ RR) <:+ rows := (List.suffix_append _ _).trans hr
    have hr3 : RR <:+ rows := (List.suffix_append _ _).trans hr2
    rw [l1]
    refine seg_low (s := ⟨h', s.gens, s.drawn, tk', s.os⟩) (row := (S, S / 2 ^ st * 2 ^ st + (2 ^ st - 1), k)) LC G' F' C lf lc hg hd ho (fun e => ?_) fun s₀ s g r G F C hg hd ho => ?_
    · rw [hlow] at e
      have x : ¬ S % 2 ^ st = 0 := of_decide_eq_true e
      rw [if_neg x] at hr
      refine ⟨suff_at hr, rfl, ?_, rfl⟩
      rw [or_msk, or_low]; rfl
    rw [l2]
    refine seg_up (row := (E / 2 ^ st * 2 ^ st, E, k)) LC G F C lf lc hg hd ho (fun e => ?_) fun s₀ s g r G F C hg hd ho => ?_
    · rw [hup] at e
      have x : ¬ E % 2 ^ st = 2 ^ st - 1 := of_decide_eq_true e
      rw [if_neg x] at hr2
      exact ⟨suff_at hr2, and_nm hEx hmx, or_low E (k * st), rfl⟩
    refine seg_wrap (gen_tail G F C fun h' tk' oC' t5' mm hC' F' n1 n2 n3 n4 G' => ?_)
    refine seg_again rfl ?_
    have ek : (((k * st : Nat) : Int) + (st : Int)) = (((k + 1) * st : Nat) : Int) := by rw [e1]; rfl
    rw [ek] at hC'
    rw [hns, Nat.mul_assoc, ← Nat.pow_add, Nat.add_comm st, ← e1] at n3
    rw [hne, Nat.mul_assoc, ← Nat.pow_add, Nat.add_comm st, ← e1] at n4
    rw [← hRR]
    refine ih (k + 1) _ _ s₀ ⟨h', s.gens, s.drawn, tk', s.os⟩ g r mm oC' (tab1 c') t1 t2 t7 t10 t5' ?_ ?_ ?_ ?_ ?_ G' F' hC' n1 n2 n3 n4 (.inr ⟨c', rfl, C.hc, lc⟩) hg hd ho (hRR ▸ hr3)
    · rw [show k + 1 + nl = k + (nl + 1) by lia]; exact z1
    · rw [show k + 1 + nl = k + (nl + 1) by lia]; exact z2
    · lia
    · refine Nat.lt_of_le_of_lt ?_ hE
      rw [e1, Nat.add_comm (k * st), Nat.pow_add, ← Nat.mul_assoc]
      refine Nat.mul_le_mul_right _ ?_
      have := Nat.div_mul_le_self (E + 1) (2 ^ st)
      rw [Nat.sub_mul]; lia
    · have : (2 ^ st) ^ nl ≤ (E + 1) / 2 ^ st := (Nat.le_div_iff_mul_le (by lia)).mpr (by rw [← Nat.pow_succ]; exact hp)
      lia
end
end Gen8
section Gen9
structure GenO (g : Nat) (o : Obj) : Prop where
  cls : o.cls = .type "generator"
  dat : ∃ nm qn, o.data = .fields #[.int g 0, nm, qn]
  slots : o.slots = #[]
theorem cells_mem {cm : Str → Option Value} {cs : List (Str × Addr)} {cells : List (Addr × Obj)} (Y : CellsAre cm cs cells) : ∀ q ∈ cells, ∃ n, (n, q.1) ∈ cs := by
  induction Y with
  | nil => intro q hq; cases hq
  | cons h r ih =>
    intro q hq
    rcases List.mem_cons.mp hq with rfl | hq
    · exact y1_1 _ (.head _)
    · (refine feed (ih q hq) ?_; refine x1_1 ?_; intro n hn)
      exact y1_1 n (.tail _ hn)
section
variable {w : World} {A : Around} {s : Shared} {h₀ : Heap} {L : Addr} {m : Str → Option Value} {nw : Led} {KF : Frag} {p : Program} {loose : List Str} {mean : ExcName → Option Value} {mg mb : Str → Option Value}
    {R : Result → Shared → Prop} {name qual : Str} {params : Arguments} {body : List Stmt} {scope : Scope} {dV kV doc pm cdv ct oc : Value} {an od : Option Addr} {osl : Array (Option Value)} {f : Addr} {args : Args} {binds : List (Str × Value)}
theorem code_gen (F : Fr h₀ L s.heap m) (X₀ : KF.In h₀) (N : News h₀ L s.heap nw) (T : Top p loose mean mg mb h₀)
    (ho : KF.lookup f = some ⟨oc, od, .func (fnOf name qual params body scope dV kV doc pm an cdv ct), osl⟩) (hcd : codeIn KF cdv qual = true) (hroom : A.depth < recursionLimit)
    (hbind : BindsTo s (fnOf name qual params body scope dV kV doc pm an cdv ct) args binds) (hkind : (binds.all fun y => scope.names.lookup y.1 == some .local || scope.names.lookup y.1 == some .cell) = true)
    (hnd : ((cellsFrom 0 scope.names []).map (·.1)).Nodup)
    (h : ∀ L' h' tk cells gA oF oG, Fr h₀ L h' m → News h₀ L h' ((gA, oG) :: (L', oF) :: (cells ++ nw)) → NsO oF (bindL (envOfC qual scope L' f cdv).kindOf binds fun _ => none) → (∃ es n, oF.data = .dict es n) → GenO s.gens.size oG →
      CellsAre (bindC (envOfC qual scope L' f cdv).kindOf binds fun _ => none) (cellsFrom (L' + 1) scope.names []) cells → L < L' → (∀ q ∈ nw, q.1 < L') → L' < gA → (∀ q ∈ cells, q.1 < gA) → R (.ok (.ret (.ref gA))) ⟨h', s.gens.push (.fresh (.func body (envOfC qual scope L' f cdv))), s.drawn, tk, s.os⟩)
    (hco : scope.isCoroutine = false) (hgen : scope.isGenerator = true) (hk : scope.kind = .function) : codeAny (model prog w) A (.call (.ref f) args) R s := by
  have X := X₀.keeps F.keep
  refine codeAny_call_generator hroom (X _ _ ho) rfl hco hgen rfl (codeRec_of X hcd) (hbind _ _ _ _ ?_)
  refine wpAny_newFunctionEnv_cells hk (kindsX hkind _) fun env' he s' x => ?_
  subst he
  refine ⟨(T.nolimit.keeps F.keep).keeps x.toInCall.keep, ?_⟩
  (refine feed (x.done) ?_; refine x2_1 ?_; intro h₁ tk; refine x0_2 ?_; intro zz9; subst zz9; intro _)
  have hk₁ := x.toInCall.keep
  (refine feed (Cl.news (h₀ := s.heap) (Nat.le_refl _) fun n c hm => ⟨x.cell n c (lookup_of_mem_nodup (cellsFrom_names scope.names 0 (s.heap.objs.size + 1) [] [] rfl ▸ hnd) hm), x.above n c hm⟩) ?_; refine x1_1 ?_; intro cells; refine x0_2 ?_; intro NC Y)
  (refine feed (x.toInCall.ns) ?_; refine x3_1 ?_; intro oF es ep; refine x0_4 ?_; intro e hd hkk hf)
  replace e : h₁.get? s.heap.objs.size = some oF := e
  have hLs : L < s.heap.objs.size := F.ns.lt
  have nn : ∀ b, s.heap.objs.size ≤ b → h₀.get? b = none := fun b hb => Heap.get?_none_of_le (Nat.le_trans F.above (Nat.le_trans (Nat.le_of_lt hLs) hb))
  refine h s.heap.objs.size _ (tk + 1 + 1) cells h₁.objs.size oF { cls := .type "generator", data := .fields #[.int s.gens.size 0, .str name tk, .str qual (tk + 1)] } ⟨(F.ns.keeps hk₁).push _, fun b o e => Heap.get?_push_of_some _ (hk₁ b o (F.keep b o e)), F.above⟩ (fun q hq => ?_) (fun h' b e' => ⟨oF, es, ep, e', hd, hkk, hf⟩) ⟨es, ep, hd⟩ ⟨rfl, ⟨_, _, rfl⟩, rfl⟩ Y hLs (fun q hq => Heap.lt_size (N q hq).1) (Heap.lt_size e) (fun q hq => Heap.lt_size (NC q hq).1)
  rcases List.mem_cons.mp hq with rfl | hq
  · exact ⟨Heap.get?_push_size _ rfl, Nat.ne_of_gt (Nat.lt_trans hLs (Heap.lt_size e)), nn _ (Nat.le_of_lt (Heap.lt_size e))⟩
  rcases List.mem_cons.mp hq with rfl | hq
  · exact ⟨Heap.get?_push_of_some _ e, Nat.ne_of_gt hLs, nn _ (Nat.le_refl _)⟩
  rcases List.mem_append.mp hq with hq | hq
  · (refine feed (cells_mem Y q hq) ?_; refine x1_1 ?_; intro n hn)
    have hlt : s.heap.objs.size < q.1 := x.above n _ hn
    exact ⟨Heap.get?_push_of_some _ (NC q hq).1, Nat.ne_of_gt (Nat.lt_trans hLs hlt), nn _ (Nat.le_of_lt hlt)⟩
  · exact ⟨Heap.get?_push_of_some _ (hk₁ _ _ (N q hq).1), (N q hq).2⟩
end
theorem split_call {w : World} {A : Around} {s : Shared} {h₀ : Heap} {L : Addr} {m : Str → Option Value} {nw : Led} {lo mean mg mb} {R : Result → Shared → Prop} {z st a b : Int} {t1 t2 t3 t4 : Tok}
    (F : Fr h₀ L s.heap m) (X₀ : (K w.params).In h₀) (N : News h₀ L s.heap nw) (T : Top topProg lo mean mg mb h₀) (hd : A.depth ≤ 360)
    (_h : ∀ L' h' tk gA oF oG oC mm, Fr h₀ L h' m → News h₀ L h' ((gA, oG) :: (L', oF) :: (L' + 1, oC) :: nw) → NsO oF mm → (∃ es n, oF.data = .dict es n) → GenO s.gens.size oG → oC.data = .cell none →
      mm (Str.ofString "intsize") = some (.int z t1) → mm (Str.ofString "step") = some (.int st t2) → mm (Str.ofString "start") = some (.int a t3) → mm (Str.ofString "end") = some (.int b t4) →
      L < L' → (∀ q ∈ nw, q.1 < L') → L' + 1 < gA → R (.ok (.ret (.ref gA))) ⟨h', s.gens.push (.fresh (.func b3 (envG L'))), s.drawn, tk, s.os⟩) :
    codeAny (model prog w) A (.call (.ref 56) ⟨[.int z t1, .int st t2, .int a t3, .int b t4], []⟩) R s := by
  refine fillIt ?_
  k_fill
  intro _
  w_strict (
    (refine' code_gen ?k1 ?k2 ?k3 ?k4 ?k6 ?k7 ?k8 ?k9 ?kB ?kn ?_ ?c2 ?c3 ?c4; (case k1 => k_asm); (case k2 => k_asm); (case k3 => k_asm); (case k4 => k_asm); (case k6 => k_is); (case k7 => k_is); (case k8 => k_room); (case k9 => exact BindsTo.of_eq rfl); (case kB => exact rfl); (case kn => decide); (case c2 => exact rfl); (case c3 => exact rfl); (case c4 => exact rfl))
    intro L' h' tk cells gA oF oG F' N' hns hFd hG Y l1 l2 l3 l4
    (refine feed (CellsAre.one Y) ?_; refine x1_1 ?_; intro oC; refine x0_2 ?_; intro zz9; subst zz9; intro hC)
    refine _h L' h' tk gA oF oG oC _ F' N' hns hFd hG hC rfl rfl rfl rfl l1 l2 (l4 _ (.head _)))
end Gen9
section Gena
noncomputable def gz0s : {x : Stmt // x = (match b3 with | a :: _ => a | _ => .Pass default)} := ⟨_, by conv => rhs; whnf⟩
theorem b3_eq : ∃ p, b3 = [gz0s.1, .While gts.1 gw [] p] := ⟨_, rfl⟩
theorem gen_zero {w : World} {A A₀ : Around} {base g hs : Heap} {fr : List Env} {L' : Nat} {m : Str → Option Value} {oC : Obj} {ps : Array Value} {r : Led} {s : Shared} {E : Value → Shared → Prop} {Q : Flow → Shared → Prop} {v : Option Value}
    (G : GG w base A₀ fr L' oC ps g hs r s.heap) (F : Fr g L' s.heap m) (hA : A.frames = some (envG L' :: fr)) (hh : A.handled = none) (hd : A.depth ≤ 320) (hu : A.units ≤ 150) (hC : oC.data = .cell v)
    (h : ∀ h' tk' oC' t, Fr g L' h' m → GG w base A₀ fr L' oC' ps g hs r h' → oC'.data = .cell (some (.int 0 t)) → Q .next ⟨h', s.gens, s.drawn, tk', s.os⟩) :
    wpAny (model prog w) A (exec gz0s.1 (envG L')) Q E s := by
  obtain ⟨B, X, ⟨lo, mean, mg, mb, T⟩, Cd, N, kp, sz, r1, r2, al, l51⟩ := G
  have l51' : (51 : Nat) < L' := l51
  have n51 : (L' + 1 : Nat) ≠ 51 := by lia
  dsimp only [gz0s, envG]
  k_steps
  rename Fr g L' _ _ => F9
  rename News g L' _ _ => N9
  rename (_ = Data.cell (some (.int 0 _))) => d9
  exact h _ _ _ _ F9 ⟨B, X, ⟨_, _, _, _, T⟩, Cd, N9, F9.keep, sz, r1, r2, al, l51⟩ d9
/-- from its first word to its end -/
theorem gen_start {w : World} {A : Around} {base : Heap} {fr : List Env} {L' st size nl S E : Nat} {oF oC : Obj} {s : Shared} {m : Str → Option Value} {v : Option Value} {t1 t2 t3 t4 : Tok}
    (hR : GR w base A fr L' oF oC #[] [] s.heap) (hm : NsO oF m) (hA : A.frames = some fr) (hh : A.handled = none) (hd : A.depth ≤ 308) (hu : A.units ≤ 80) (hC : oC.data = .cell v)
    (hst : 0 < st) (hst2 : st ≤ 16) (hsz : size ≤ 64) (z1 : nl * st < size) (z2 : size ≤ (nl + 1) * st) (hSE : S ≤ E) (hE : E < 2 ^ size) (hp : (2 ^ st) ^ nl ≤ E + 1)
    (m1 : m (Str.ofString "intsize") = some (.int (size : Int) t1)) (m2 : m (Str.ofString "step") = some (.int (st : Int) t2)) (m3 : m (Str.ofString "start") = some (.int (S : Int) t3)) (m4 : m (Str.ofString "end") = some (.int (E : Int) t4)) :
    Seg (model prog w) A.in1 (GEd L') (GY w base A fr L' (rws (2 ^ st) nl 0 S E) st) (rws (2 ^ st) nl 0 S E).length s (.func b3 (envG L')) ((model prog w).den (.func b3 (envG L'))) [] s := by
  (refine feed (gr_fr hR hm) ?_; refine x2_1 ?_; intro g r; refine x0_3 ?_; intro F G _)
  obtain ⟨p, e⟩ := b3_eq
  refine seg_func ?_
  rw [show execs b3 (envG L') = execs [gz0s.1, .While gts.1 gw [] p] (envG L') by rw [← e]]
  refine seg_execs_cons (seg_wrap (gen_zero G F ?_ ?_ ?_ ?_ hC fun h' tk' oC' t F' G' hC' => ?_))
  · show pushEnvs [envG L'] (pushEnvs [] A.frames) = _
    rw [hA]; rfl
  · exact hh
  · show A.depth + 0 + 1 ≤ 320
    lia
  · show A.units + 1 + 0 + 3 ≤ 150
    lia
  dsimp only
  refine seg_execs_cons (seg_While fun p' => ?_)
  have e0 : ∀ x : Nat, x * 2 ^ (0 * st) = x := fun x => by rw [Nat.zero_mul, Nat.pow_zero, Nat.mul_one]
  refine gen_loop (AG := A.in1) (A₀ := A) (base := base) (fr := fr) (rows := rws (2 ^ st) nl 0 S E) ⟨?_, ?_, ?_, ?_, rfl, rfl, fun s₀ s' hgp => ?_⟩ hst hst2 hsz nl 0 S E s ⟨h', s.gens, s.drawn, tk', s.os⟩ g r m oC' #[] t1 t2 t3 t4 t (by rw [Nat.zero_add]; exact z1) (by rw [Nat.zero_add]; exact z2) hSE (by rw [e0]; exact hE) hp G' F' (by rw [Nat.zero_mul]; exact hC') m1 m2 (by rw [e0]; exact m3) (by rw [e0]; exact m4) (.inl rfl) rfl rfl rfl (List.suffix_refl _)
  · show pushEnvs [] (pushEnvs [] (pushEnvs [envG L'] A.frames)) = _
    rw [hA]; rfl
  · exact hh
  · show A.depth + (1 + 0) + 0 ≤ 310
    lia
  · show A.units + 1 + (3 + 0) + 0 ≤ 100
    lia
  · refine seg_leaf (.ok .next) ?_
    show Seg _ _ _ _ _ _ _ (leafOf (.ok (.ret .none))) [] s'
    exact seg_end _ ⟨rfl, hgp⟩
end Gena
section LKind
/-- the sizes and the steps -/
noncomputable def KindOk (z st : Nat) : Prop := (z, st) ∈ [(8, 2), (8, 4), (16, 4), (16, 8), (32, 8), (64, 16), (8, 3), (16, 5)]
theorem KindOk.b {z st : Nat} (k : KindOk z st) : 0 < st ∧ st ≤ 16 ∧ 8 ≤ z ∧ z ≤ 64 ∧ st ≤ z := by
  simp only [KindOk, List.mem_cons, Prod.mk.injEq, List.not_mem_nil, or_false] at k
  rcases k with ⟨rfl, rfl⟩ | ⟨rfl, rfl⟩ | ⟨rfl, rfl⟩ | ⟨rfl, rfl⟩ | ⟨rfl, rfl⟩ | ⟨rfl, rfl⟩ | ⟨rfl, rfl⟩ | ⟨rfl, rfl⟩ <;> decide
theorem law_kinds_spec : ∀ {w : World} {A : Around} {s : Shared} {h₀ : Heap} {L : Addr} {m : Str → Option Value} {nw : Led} (C : Cx w A h₀ L 0) (F : Fr h₀ L s.heap m) (N : News h₀ L s.heap nw)
    (hh : A.handled = none) {R : Result → Shared → Prop}
    (_h : ∀ h' tk' l (vs : List Value) nw', Fr h₀ L h' m → News h₀ L h' nw' → (∀ p ∈ nw, p ∈ nw') → (l, listOf vs.toArray 0) ∈ nw' → vs.length = 8 → (∀ i, i < 8 → ∃ d z st t1 t2, vs[i]? = some (Value.ref d) ∧ KindOk z st ∧ (d, (⟨.type "tuple", none, .seq #[.int (z : Nat) t1, .int (st : Nat) t2], #[]⟩ : Obj)) ∈ nw') → R (.ok (.ret (.ref l))) ⟨h', s.gens, s.drawn, tk', s.os⟩),
    codeAny (model prog w) A (.call (.ref 444) ⟨[], []⟩) R s := by
  intro w A s h₀ L m nw
  refine Cx.el ?_
  intro X₀ lo mean mg mb T A₀ base outer env B hA hf hke hdep hun F N hh R h
  refine fillIt ?_
  k_fill
  intro _
  w_strict (
    walk_at "m_enter"
    intro g' L' h' FG' F' N' B' X' T'
    (try dsimp only [b25, b25s])
    k_fold
    k_steps
    rename News h₀ L _ _ => N9
    rename Fr h₀ L _ _ => F9
    refine h _ _ _ [_, _, _, _, _, _, _, _] _ F9 N9 (fun p hp => ?_) (List.Mem.head _) rfl ?_
    · exact .tail _ (.tail _ (.tail _ (.tail _ (.tail _ (.tail _ (.tail _ (.tail _ (.tail _ hp))))))))
    · intro i hi
      rcases i with _ | _ | _ | _ | _ | _ | _ | _ | i
      · exact y5_1 _ 8 2 _ _ (ya3 rfl (by unfold KindOk; decide) (by k_mem))
      · exact y5_1 _ 8 4 _ _ (ya3 rfl (by unfold KindOk; decide) (by k_mem))
      · exact y5_1 _ 16 4 _ _ (ya3 rfl (by unfold KindOk; decide) (by k_mem))
      · exact y5_1 _ 16 8 _ _ (ya3 rfl (by unfold KindOk; decide) (by k_mem))
      · exact y5_1 _ 32 8 _ _ (ya3 rfl (by unfold KindOk; decide) (by k_mem))
      · exact y5_1 _ 64 16 _ _ (ya3 rfl (by unfold KindOk; decide) (by k_mem))
      · exact y5_1 _ 8 3 _ _ (ya3 rfl (by unfold KindOk; decide) (by k_mem))
      · exact y5_1 _ 16 5 _ _ (ya3 rfl (by unfold KindOk; decide) (by k_mem))
      · lia)
end LKind
section Law0
noncomputable abbrev envL (L : Addr) (fa : Addr) (cd : Value) : Env := envOfC (Str.ofString "law") s27 L fa cd
/-- the law's own ground -/
structure LawC (w : World) (A A₀ : Around) (base : Heap) (outer : List Env) (h₀ : Heap) (L fa : Addr) (cd : Value) : Prop where
  B : Below A₀ base outer h₀
  X : (K w.params).In h₀
  T : ∃ lo mean mg mb, Top topProg lo mean mg mb h₀
  hA : A.frames = some (envL L fa cd :: outer)
  hh : A.handled = none
  hd : A.depth ≤ 305
  hu : A.units ≤ 50
  XB : (K w.params).In base
  TB : ∃ lo mean mg mb, Top topProg lo mean mg mb base
  D : KtsDicts (outer.filterMap (·.frame)) h₀
theorem LawC.el {w : World} {A A₀ : Around} {base : Heap} {outer : List Env} {h₀ : Heap} {L fa : Addr} {cd : Value} {g : Prop} (k : Below A₀ base outer h₀ → (K w.params).In h₀ → ∀ lo mean mg mb, Top topProg lo mean mg mb h₀ → A.frames = some (envL L fa cd :: outer) → A.handled = none → A.depth ≤ 305 → A.units ≤ 50 →
    (K w.params).In base → (∃ lo mean mg mb, Top topProg lo mean mg mb base) → KtsDicts (outer.filterMap (·.frame)) h₀ → g) (C : LawC w A A₀ base outer h₀ L fa cd) : g :=
  C.T.elim fun a h => h.elim fun b h => h.elim fun c h => h.elim fun d h => k C.B C.X a b c d h C.hA C.hh C.hd C.hu C.XB C.TB C.D
theorem LawC.turn {w : World} {A A₀ : Around} {base : Heap} {outer : List Env} {h₀ h₀' : Heap} {L fa : Addr} {cd : Value} (C : LawC w A A₀ base outer h₀ L fa cd) (t : TurnS A₀ base outer h₀ h₀') : LawC w A A₀ base outer h₀' L fa cd :=
  ⟨t.B, C.XB.keeps t.B.stays, let ⟨_, _, _, _, T⟩ := C.TB; ⟨_, _, _, _, T.keeps t.B.stays⟩, C.hA, C.hh, C.hd, C.hu, C.XB, C.TB, t.D⟩
theorem LawC.cx {w : World} {A A₀ : Around} {base : Heap} {outer : List Env} {h₀ : Heap} {L fa : Addr} {cd : Value} (C : LawC w A A₀ base outer h₀ L fa cd) {d : Nat} (hd : d ≤ 10) : CxG w A A₀ base outer h₀ L d :=
  ⟨C.XB, C.TB, C.B, C.D, ⟨_, C.hA, rfl, rfl⟩, by have := C.hd; lia, by have := C.hu; lia⟩
theorem LawC.cxT {w : World} {A A₀ : Around} {base : Heap} {outer : List Env} {h₀ : Heap} {L fa : Addr} {cd : Value} (C : LawC w A A₀ base outer h₀ L fa cd) : TurnS A₀ base outer h₀ h₀ := ⟨.refl, C.B, C.D⟩
noncomputable def lsAt (i : Nat) : Stmt := (b27[i]?).getD (.Pass default)
noncomputable def ls0s : {x : Stmt // x = lsAt 0} := ⟨_, by conv => rhs; whnf⟩
noncomputable def ls1s : {x : Stmt // x = lsAt 1} := ⟨_, by conv => rhs; whnf⟩
noncomputable def ls2s : {x : Stmt // x = lsAt 2} := ⟨_, by conv => rhs; whnf⟩
noncomputable def ls3s : {x : Stmt // x = lsAt 3} := ⟨_, by conv => rhs; whnf⟩
noncomputable def ls4s : {x : Stmt // x = lsAt 4} := ⟨_, by conv => rhs; whnf⟩
noncomputable def ls5s : {x : Stmt // x = lsAt 5} := ⟨_, by conv => rhs; whnf⟩
noncomputable def ls6s : {x : Stmt // x = lsAt 6} := ⟨_, by conv => rhs; whnf⟩
/-- one name of the frame set anew -/
structure SetTo (m m' : Str → Option Value) (x : Str) (v : Value) : Prop where
  at_ : m' x = some v
  ne : ∀ y, y ≠ x → m' y = m y
theorem SetTo.of {m : Str → Option Value} {x : Str} {v : Value} {l : List (Str × Value)} (hl : ∀ p ∈ l, m p.1 = some p.2) : SetTo m (fun y => if y = x then some v else over l m y) x v :=
  ⟨if_pos rfl, fun y hy => (if_neg hy).trans (over_self hl y).symm⟩
section
variable {w : World} {A A₀ : Around} {base : Heap} {outer : List Env} {s : Shared} {h₀ : Heap} {L fa : Addr} {cd : Value} {m : Str → Option Value} {nw : Led} {E : Value → Shared → Prop} {Q : Flow → Shared → Prop} {sl : Addr} {vs : List Value} {ns : List Int} {ts : Tok}
theorem fmod_pow (x : Int) (z : Nat) : x.fmod (1 * 2 ^ (z : Int).toNat) = ((x % 2 ^ z).toNat : Nat) := by
  have hp : (0 : Int) < 2 ^ z := Int.pow_pos (by decide)
  rw [Int.one_mul, Int.toNat_natCast, Int.fmod_eq_emod_of_nonneg _ (Int.le_of_lt hp), Int.toNat_of_nonneg (Int.emod_nonneg _ (Int.ne_of_gt hp))]
theorem mod_lt_pow (x : Int) (z : Nat) : (x % 2 ^ z).toNat < 2 ^ z := by
  have hp : (0 : Int) < 2 ^ z := Int.pow_pos (by decide)
  have := Int.emod_lt_of_pos x hp
  have h2 := pow_cast z
  lia
theorem fmod_sub (x : Int) (z b : Nat) (hb : b < 2 ^ z) : (b : Int) + x.fmod (1 * 2 ^ (z : Int).toNat - b) = ((b + (x % ((2 ^ z - b : Nat) : Int)).toNat : Nat) : Int) ∧ b + (x % ((2 ^ z - b : Nat) : Int)).toNat < 2 ^ z := by
  have e : (1 * 2 ^ (z : Int).toNat - b : Int) = ((2 ^ z - b : Nat) : Int) := by
    rw [Int.one_mul, Int.toNat_natCast, pow_cast]; lia
  have hp : (0 : Int) < ((2 ^ z - b : Nat) : Int) := by lia
  have h1 := Int.emod_nonneg x (Int.ne_of_gt hp)
  have h2 := Int.emod_lt_of_pos x hp
  rw [e, Int.fmod_eq_emod_of_nonneg _ (Int.le_of_lt hp)]
  lia
theorem store_cellM {env : Env} {c : Addr} {o : Obj} {x : Str} {v : Value} {v₀ : Option Value} {Q : Unit → Shared → Prop} (F : Fr h₀ L s.heap m) (N : News h₀ L s.heap nw) (hm : (c, o) ∈ nw) (hd : o.data = .cell v₀) (hk : env.scope.kind = .function) (hl : env.kindOf x = some .cell)
    (hc : env.cells.lookup x = some c) (h : ∀ h' o', Fr h₀ L h' m → News h₀ L h' (put c o' nw) → o'.data = .cell (some v) → Q () { s with heap := h' }) : wpAny (model prog w) A (storeName env x v) Q E s := by
  refine wpAny_storeName_cell hk hl hc ⟨o, (N _ hm).1, hd⟩ fun h' hc' hs => ?_
  (revert hc'; refine x1_1 ?_; intro o'; refine x0_2 ?_; intro ho' hd')
  (refine feed (led_set F N hm hs ho') ?_; refine x0_2 ?_; intro F' N')
  exact h h' o' F' N' hd'
theorem len_script (F : Fr h₀ L s.heap m) (hl : h₀.IsList sl vs.toArray) (hI : IntsAre vs ns) (hk : ¬ ((63 : Nat) : Int) < (ns.length : Int)) {Q : Value → Shared → Prop} (h : ∀ t tk, Q (.int ns.length t) { s with toks := tk }) : wpAny (model prog w) A (call (.builtin "len") [.ref sl]) Q E s := by
  have e : vs.length = ns.length := hI.length
  exact call_len_list (F.lst hl) (by simp only [List.size_toArray]; lia) (by simpa only [List.size_toArray, e] using h _ _)
theorem law_s0 (C : LawC w A A₀ base outer h₀ L fa cd) (F : Fr h₀ L s.heap m) (N : News h₀ L s.heap nw) (ms : m (Str.ofString "script") = some (.ref sl)) (hl : h₀.IsList sl vs.toArray) (hI : IntsAre vs ns) (hL : (PyData.list (List.map PyData.int ns)).layable0 = true) (hk : ¬ ((63 : Nat) : Int) < (ns.length : Int))
    (h : ∀ h' tk' (v : Int) t m', Fr h₀ L h' m' → News h₀ L h' nw → SetTo m m' (Str.ofString "head") (.int v t) → Q .next ⟨h', s.gens, s.drawn, tk', s.os⟩) :
    wpAny (model prog w) A (exec ls0s.1 (envL L fa cd)) Q E s := by
  obtain ⟨B, X, ⟨lo, mean, mg, mb, T⟩, hA, hh, hd, hu, -, -, -⟩ := C
  have hnm : ∀ p ∈ [(Str.ofString "script", .ref sl)], m p.1 = some p.2 := (by
    intro p hp
    simp only [List.mem_cons, List.not_mem_nil, or_false] at hp
    subst hp; exact ms)
  replace F := fr_congr F (over_self hnm)
  dsimp only [over] at F
  dsimp only [ls0s, envL]
  k_steps
  all_goals
    rename Fr h₀ L _ _ => F9
    rename News h₀ L _ _ => N9
    exact h _ _ _ _ _ F9 N9 (SetTo.of hnm)
section
local macro_rules | `(tactic| walk_at $s:str) => do
  let k := Lean.Syntax.mkStrLit ("L1:" ++ s.getString)
  `(tactic| k_extra $k)
theorem law_s1 (C : LawC w A A₀ base outer h₀ L fa cd) (F : Fr h₀ L s.heap m) (N : News h₀ L s.heap nw) {hv : Int} {th : Tok} (mh : m (Str.ofString "head") = some (.int hv th))
    (h : ∀ h' tk' (z st : Nat) t1 t2 nw' m', KindOk z st → Fr h₀ L h' m' → News h₀ L h' nw' → (∀ p ∈ nw, p ∈ nw') → m' (Str.ofString "size") = some (.int z t1) → m' (Str.ofString "step") = some (.int st t2) → (∀ y, y ≠ Str.ofString "size" → y ≠ Str.ofString "step" → m' y = m y) → Q .next ⟨h', s.gens, s.drawn, tk', s.os⟩) :
    wpAny (model prog w) A (exec ls1s.1 (envL L fa cd)) Q E s := by
  obtain ⟨B, X, ⟨lo, mean, mg, mb, T⟩, hA, hh, hd, hu, -, -, -⟩ := C
  have hnm : ∀ p ∈ [(Str.ofString "head", .int hv th)], m p.1 = some p.2 := (by
    intro p hp
    simp only [List.mem_cons, List.not_mem_nil, or_false] at hp
    subst hp; exact mh)
  replace F := fr_congr F (over_self hnm)
  dsimp only [over] at F
  dsimp only [ls1s, envL]
  k_with "L1:call ref" => (k_here; (with_reducible show wpAny _ _ (call (Value.ref 444) _) _ _ _); refine wpAny_call ?_; k_dflt (refine' law_kinds_spec ?mc (by k_asm) (by k_asm) ?mh ?_; (case mc => walk_at "m_cx"); (case mh => walk_at "m_hh")); intro h1 tk1 l1 vs1 nw1 F1 N1 K1 hl1 hv1 ho1; dsimp only)
  k_with "L1:subscriptTail" => (k_here; (with_reducible show wpAny _ _ (subscriptTail _ _ (Value.ref _) (Value.int _ _)) _ _ _); refine stop_of ?_)
  refine fillIt ?_
  k_fill
  intro _
  w_strict (
    k_steps
    refine Stop.out ?_
    (refine feed (show ∃ p : Nat, hv.fmod 8 = (p : Int) ∧ p < 8 from ⟨(hv % 8).toNat, by rw [Int.fmod_eq_emod_of_nonneg _ (by decide)]; lia, by lia⟩) ?_; refine x1_1 ?_; intro p; refine x0_2 ?_; intro hp hp8)
    rw [hp]
    (refine feed (ho1 p hp8) ?_; refine x5_1 ?_; intro d z st t1 t2; refine x0_3 ?_; intro e1 e2 e3)
    refine sub_list_M N1 hl1 (by lia) (by lia) ?_
    rw [List.getD_eq_getElem?_getD, e1]
    show wpAny _ _ (assign (.Tuple [.Name _ _, .Name _ _] _ _) (envL L fa cd) (.ref d)) _ _ _
    refine assign_pair (env := envL L fa cd) (g := h₀) (nw := nw1) hh rfl rfl rfl ⟨_, (N1 _ e3).1, rfl, _, rfl⟩ F1 N1 fun h' tk F' N' => ?_
    refine h _ _ z st t1 t2 nw1 _ e2 F' N' K1 rfl rfl fun y n1 n2 => ?_
    show (if y = _ then _ else if y = _ then _ else if y = _ then _ else m y) = m y
    rw [if_neg n2, if_neg n1]
    exact (over_self hnm y).symm)
end
theorem law_s2 (C : LawC w A A₀ base outer h₀ L fa cd) (F : Fr h₀ L s.heap m) (N : News h₀ L s.heap nw) {z st : Nat} {t1 t2 t3 t4 t5 : Tok} (kz : KindOk z st) (mz : m (Str.ofString "size") = some (.int (z : Nat) t1)) (mt : m (Str.ofString "step") = some (.int (st : Nat) t2))
    (h : ∀ h' tk' t m', Fr h₀ L h' m' → News h₀ L h' nw → SetTo m m' (Str.ofString "block") (.int (2 ^ ((z - 1) / st * st) : Nat) t) → Q .next ⟨h', s.gens, s.drawn, tk', s.os⟩) :
    wpAny (model prog w) A (exec ls2s.1 (envL L fa cd)) Q E s := by
  obtain ⟨B, X, ⟨lo, mean, mg, mb, T⟩, hA, hh, hd, hu, -, -, -⟩ := C
  have hnm : ∀ p ∈ [(Str.ofString "size", .int (z : Nat) t1), (Str.ofString "step", .int (st : Nat) t2)], m p.1 = some p.2 := (by
    intro p hp
    simp only [List.mem_cons, List.not_mem_nil, or_false] at hp
    rcases hp with rfl | rfl
    · exact mz
    · exact mt)
  replace F := fr_congr F (over_self hnm)
  dsimp only [over] at F
  have kb := kz.b
  have ex : ((z : Int) - 1).fdiv st * st = (((z - 1) / st * st : Nat) : Int) := by
    rw [Int.fdiv_eq_ediv_of_nonneg _ (Int.natCast_nonneg _), show (z : Int) - 1 = ((z - 1 : Nat) : Int) by lia]; rfl
  have ex0 : 0 ≤ ((z : Int) - 1).fdiv st * st := by rw [ex]; exact Int.natCast_nonneg _
  have ex1 : ((z : Int) - 1).fdiv st * st ≤ 63 := by
    have := Nat.div_mul_le_self (z - 1) st
    rw [ex]; lia
  dsimp only [ls2s, envL]
  k_steps
  rename Fr h₀ L _ _ => F9
  rename News h₀ L _ _ => N9
  rw [ex, Int.toNat_natCast, Int.one_mul, pow_cast] at F9
  exact h _ _ _ _ F9 N9 (SetTo.of hnm)
section
local macro_rules | `(tactic| walk_at $s:str) => do
  let k := Lean.Syntax.mkStrLit ("L2:" ++ s.getString)
  `(tactic| k_extra $k)
local macro_rules | `(tactic| walk_at "zz") => `(tactic| skip)
theorem law_s3 (C : LawC w A A₀ base outer h₀ L fa cd) (F : Fr h₀ L s.heap m) (N : News h₀ L s.heap nw) (ms : m (Str.ofString "script") = some (.ref sl)) (hl : h₀.IsList sl vs.toArray) (hI : IntsAre vs ns) (hL : (PyData.list (List.map PyData.int ns)).layable0 = true) (hk : ¬ ((63 : Nat) : Int) < (ns.length : Int)) {z st : Nat} {t1 t2 t3 t4 t5 : Tok} (kz : KindOk z st) (mz : m (Str.ofString "size") = some (.int (z : Nat) t1))
    (h : ∀ h' tk' (v : Nat) t m', Fr h₀ L h' m' → News h₀ L h' nw → SetTo m m' (Str.ofString "one") (.int v t) → v < 2 ^ z → Q .next ⟨h', s.gens, s.drawn, tk', s.os⟩) :
    wpAny (model prog w) A (exec ls3s.1 (envL L fa cd)) Q E s := by
  obtain ⟨B, X, ⟨lo, mean, mg, mb, T⟩, hA, hh, hd, hu, -, -, -⟩ := C
  have hnm : ∀ p ∈ [(Str.ofString "script", .ref sl), (Str.ofString "size", .int (z : Nat) t1)], m p.1 = some p.2 := (by
    intro p hp
    simp only [List.mem_cons, List.not_mem_nil, or_false] at hp
    rcases hp with rfl | rfl
    · exact ms
    · exact mz)
  replace F := fr_congr F (over_self hnm)
  dsimp only [over] at F
  have kb := kz.b
  dsimp only [ls3s, envL]
  k_with "L2:call builtin:len" => (k_here; (with_reducible show wpAny _ _ (call (Value.builtin "len") [Value.ref _]) _ _ _); k_dflt (refine len_script (by assumption) hl hI hk ?_); intro tq tkq)
  refine fillIt ?_
  k_fill
  intro _
  w_strict (
    k_steps
    all_goals
      rename Fr h₀ L _ _ => F9
      rename News h₀ L _ _ => N9
      simp only [fmod_pow] at F9
      exact h _ _ _ _ _ F9 N9 (SetTo.of hnm) (mod_lt_pow _ _))
end
section
local macro_rules | `(tactic| walk_at $s:str) => do
  let k := Lean.Syntax.mkStrLit ("L3:" ++ s.getString)
  `(tactic| k_extra $k)
theorem law_s4 (C : LawC w A A₀ base outer h₀ L fa cd) (F : Fr h₀ L s.heap m) (N : News h₀ L s.heap nw) (ms : m (Str.ofString "script") = some (.ref sl)) (hl : h₀.IsList sl vs.toArray) (hI : IntsAre vs ns) (hL : (PyData.list (List.map PyData.int ns)).layable0 = true) (hk : ¬ ((63 : Nat) : Int) < (ns.length : Int)) {z st : Nat} {t1 t2 t3 t4 t5 : Tok} (kz : KindOk z st) {bk : Nat} (hbk : bk < 2 ^ z) (mz : m (Str.ofString "size") = some (.int (z : Nat) t1)) (mbk : m (Str.ofString "block") = some (.int bk t2))
    (h : ∀ h' tk' (v : Nat) t m', Fr h₀ L h' m' → News h₀ L h' nw → SetTo m m' (Str.ofString "other") (.int v t) → bk ≤ v → v < 2 ^ z → Q .next ⟨h', s.gens, s.drawn, tk', s.os⟩) :
    wpAny (model prog w) A (exec ls4s.1 (envL L fa cd)) Q E s := by
  obtain ⟨B, X, ⟨lo, mean, mg, mb, T⟩, hA, hh, hd, hu, -, -, -⟩ := C
  have hnm : ∀ p ∈ [(Str.ofString "script", .ref sl), (Str.ofString "size", .int (z : Nat) t1), (Str.ofString "block", .int bk t2)], m p.1 = some p.2 := (by
    intro p hp
    simp only [List.mem_cons, List.not_mem_nil, or_false] at hp
    rcases hp with rfl | rfl | rfl
    · exact ms
    · exact mz
    · exact mbk)
  replace F := fr_congr F (over_self hnm)
  dsimp only [over] at F
  have kb := kz.b
  have hdp : (0 : Int) < 1 * 2 ^ (z : Int).toNat - (bk : Int) := by
    rw [Int.one_mul, Int.toNat_natCast, pow_cast]; lia
  have hd0 : 1 * 2 ^ (z : Int).toNat - (bk : Int) ≠ 0 := Int.ne_of_gt hdp
  have fm := fun x => (fmod_sub x z bk hbk).1
  dsimp only [ls4s, envL]
  k_with "L3:call builtin:len" => (k_here; (with_reducible show wpAny _ _ (call (Value.builtin "len") [Value.ref _]) _ _ _); k_dflt (refine len_script (by assumption) hl hI hk ?_); intro tq tkq)
  refine fillIt ?_
  k_fill
  intro _
  w_strict (
    k_steps
    all_goals
      rename Fr h₀ L _ _ => F9
      rename News h₀ L _ _ => N9
      simp only [fm] at F9
      exact h _ _ _ _ _ F9 N9 (SetTo.of hnm) (Nat.le_add_right _ _) (fmod_sub _ z bk hbk).2)
end
section
local macro_rules | `(tactic| walk_at $s:str) => do
  let k := Lean.Syntax.mkStrLit ("L4:" ++ s.getString)
  `(tactic| k_extra $k)
local macro_rules | `(tactic| walk_at "zz") => `(tactic| skip)
theorem law_s5 (C : LawC w A A₀ base outer h₀ L fa cd) (F : Fr h₀ L s.heap m) (N : News h₀ L s.heap nw) {a b : Nat} {t1 t2 : Tok} {oc : Obj} {v : Option Value} (hc : ((L + 1), oc) ∈ nw) (hcd : oc.data = .cell v) (m1 : m (Str.ofString "one") = some (.int a t1)) (m2 : m (Str.ofString "other") = some (.int b t2))
    (h : ∀ h' tk' o' t, Fr h₀ L h' m → News h₀ L h' (put (L + 1) o' nw) → o'.data = .cell (some (.int (min a b : Nat) t)) → Q .next ⟨h', s.gens, s.drawn, tk', s.os⟩) :
    wpAny (model prog w) A (exec ls5s.1 (envL L fa cd)) Q E s := by
  obtain ⟨B, X, ⟨lo, mean, mg, mb, T⟩, hA, hh, hd, hu, -, -, -⟩ := C
  have hnm : ∀ p ∈ [(Str.ofString "one", .int a t1), (Str.ofString "other", .int b t2)], m p.1 = some p.2 := (by
    intro p hp
    simp only [List.mem_cons, List.not_mem_nil, or_false] at hp
    rcases hp with rfl | rfl
    · exact m1
    · exact m2)
  replace F := fr_congr F (over_self hnm)
  dsimp only [over] at F
  dsimp only [ls5s, envL]
  k_with "L4:storeName" => (k_here; refine stop_of ?_)
  k_with "L4:call builtin:min" => (k_here; k_dflt (refine PyProof.Rows.min_two_N hh (by assumption) (by assumption) ?_); intro hq tkq Fq Nq)
  refine fillIt ?_
  k_fill
  intro _
  w_strict (
    k_steps
    refine Stop.out ?_
    rename Fr h₀ L _ _ => F9
    rename News h₀ L _ _ => N9
    have e : (if (b : Int) < a then (b : Int) else a) = ((min a b : Nat) : Int) := by split <;> lia
    rw [e]
    refine store_cellM (env := envL L fa cd) F9 N9 hc hcd rfl rfl rfl fun h' o' F' N' hd' => ?_
    exact h _ _ o' _ (fr_congr F' fun y => (over_self hnm y).symm) N' hd')
end
section
local macro_rules | `(tactic| walk_at $s:str) => do
  let k := Lean.Syntax.mkStrLit ("L5:" ++ s.getString)
  `(tactic| k_extra $k)
theorem law_s6 (C : LawC w A A₀ base outer h₀ L fa cd) (F : Fr h₀ L s.heap m) (N : News h₀ L s.heap nw) {a b : Nat} {t1 t2 : Tok} {oc : Obj} {v : Option Value} (hc : ((L + 1 + 1), oc) ∈ nw) (hcd : oc.data = .cell v) (m1 : m (Str.ofString "one") = some (.int a t1)) (m2 : m (Str.ofString "other") = some (.int b t2))
    (h : ∀ h' tk' o' t, Fr h₀ L h' m → News h₀ L h' (put (L + 1 + 1) o' nw) → o'.data = .cell (some (.int (max a b : Nat) t)) → Q .next ⟨h', s.gens, s.drawn, tk', s.os⟩) :
    wpAny (model prog w) A (exec ls6s.1 (envL L fa cd)) Q E s := by
  obtain ⟨B, X, ⟨lo, mean, mg, mb, T⟩, hA, hh, hd, hu, -, -, -⟩ := C
  have hnm : ∀ p ∈ [(Str.ofString "one", .int a t1), (Str.ofString "other", .int b t2)], m p.1 = some p.2 := (by
    intro p hp
    simp only [List.mem_cons, List.not_mem_nil, or_false] at hp
    rcases hp with rfl | rfl
    · exact m1
    · exact m2)
  replace F := fr_congr F (over_self hnm)
  dsimp only [over] at F
  dsimp only [ls6s, envL]
  k_with "L5:storeName" => (k_here; refine stop_of ?_)
  k_with "L5:call builtin:max" => (k_here; k_dflt (refine PyProof.Rows.max_two_N hh (by assumption) (by assumption) ?_); intro hq tkq Fq Nq)
  refine fillIt ?_
  k_fill
  intro _
  w_strict (
    k_steps
    refine Stop.out ?_
    rename Fr h₀ L _ _ => F9
    rename News h₀ L _ _ => N9
    have e : (if (b : Int) > a then (b : Int) else a) = ((max a b : Nat) : Int) := by split <;> lia
    rw [e]
    refine store_cellM (env := envL L fa cd) F9 N9 hc hcd rfl rfl rfl fun h' o' F' N' hd' => ?_
    exact h _ _ o' _ (fr_congr F' fun y => (over_self hnm y).symm) N' hd')
end
end
end Law0
section Post0
noncomputable abbrev pkv (p : List Nat × Addr) : Str × Value := ((⟨p.1.toArray⟩ : Str), Value.ref p.2)
theorem str_inj {a b : List Nat} (h : (⟨a.toArray⟩ : Str) = ⟨b.toArray⟩) : a = b := by
  injection h with h
  simpa using congrArg Array.toList h
/-- the terms' dictionary so far -/
structure PostsAt (w : World) (nw0 : Led) (dp : Addr) (T : Nat → Nat → List Nat) (done : List (Nat × Nat)) (l : Led) (o : Obj) (ps : List (List Nat × Addr)) : Prop where
  mem : (dp, o) ∈ l
  dict : o.IsDictOf (PySem.strKind prog w) (ps.map pkv)
  nodup : (ps.map (·.2)).Nodup
  knodup : (ps.map (·.1)).Nodup
  keys : ∀ t, t ∈ ps.map (·.1) ↔ ∃ q ∈ done, T q.1 q.2 = t
  docs : ∀ p ∈ ps, ∃ vs c, (p.2, listOf (List.toArray vs) c) ∈ l ∧ IntsAre vs ((done.filter fun q => decide (T q.1 q.2 = p.1)).map fun q => (q.1 : Int))
  old : ∀ q ∈ nw0, q ∈ l ∧ q.1 ≠ dp ∧ ∀ p ∈ ps, q.1 ≠ p.2
  lo : (dp == sysModules) = false
  len : ps.length ≤ done.length
theorem ints_snoc : ∀ {vs : List Value} {ns : List Int} (_ : IntsAre vs ns) (x : Int) (t : Tok), IntsAre (vs ++ [.int x t]) (ns ++ [x])
  | _, _, .nil, x, t => .cons x t .nil
  | _, _, .cons y u h, x, t => .cons y u (ints_snoc h x t)
theorem posts_find : ∀ (ps : List (List Nat × Addr)) (t : List Nat), (valueAt (ps.map pkv) (⟨t.toArray⟩ : Str) = none ∧ t ∉ ps.map (·.1)) ∨ ∃ a, valueAt (ps.map pkv) (⟨t.toArray⟩ : Str) = some (.ref a) ∧ (t, a) ∈ ps
  | [], t => .inl ⟨rfl, fun h => nomatch h⟩
  | (u, b) :: ps, t => by
    by_cases e : u = t
    · subst e
      exact .inr ⟨b, by simp [valueAt], .head _⟩
    · have e' : ¬ (⟨u.toArray⟩ : Str) = ⟨t.toArray⟩ := fun q => e (str_inj q)
      have e2 : valueAt (((u, b) :: ps).map pkv) (⟨t.toArray⟩ : Str) = valueAt (ps.map pkv) ⟨t.toArray⟩ := by simp [valueAt, e']
      rw [e2]
      rcases posts_find ps t with ⟨h1, h2⟩ | ⟨a, h1, h2⟩
      · exact .inl ⟨h1, fun hm => by
          rcases List.mem_cons.mp hm with hm | hm
          · exact e hm.symm
          · exact h2 hm⟩
      · exact .inr ⟨a, h1, .tail _ h2⟩
theorem nodup_snd {ps : List (List Nat × Addr)} (h : (ps.map (·.2)).Nodup) {p q : List Nat × Addr} (hp : p ∈ ps) (hq : q ∈ ps) (e : p.2 = q.2) : p = q := by
  induction ps with
  | nil => cases hp
  | cons x ps ih =>
    rw [List.map_cons, List.nodup_cons] at h
    rcases List.mem_cons.mp hp with hp1 | hp1 <;> rcases List.mem_cons.mp hq with hq1 | hq1
    · exact hp1.trans hq1.symm
    · exact absurd (List.mem_map.mpr ⟨q, hq1, by rw [← e, hp1]⟩) h.1
    · exact absurd (List.mem_map.mpr ⟨p, hp1, by rw [e, hq1]⟩) h.1
    · exact ih h.2 hp1 hq1
theorem nodup_fst {ps : List (List Nat × Addr)} (h : (ps.map (·.1)).Nodup) {p q : List Nat × Addr} (hp : p ∈ ps) (hq : q ∈ ps) (e : p.1 = q.1) : p = q := by
  induction ps with
  | nil => cases hp
  | cons x ps ih =>
    rw [List.map_cons, List.nodup_cons] at h
    rcases List.mem_cons.mp hp with hp1 | hp1 <;> rcases List.mem_cons.mp hq with hq1 | hq1
    · exact hp1.trans hq1.symm
    · exact absurd (List.mem_map.mpr ⟨q, hq1, by rw [← e, hp1]⟩) h.1
    · exact absurd (List.mem_map.mpr ⟨p, hp1, by rw [e, hq1]⟩) h.1
    · exact ih h.2 hp1 hq1
section
variable {w : World} {nw0 l l' : Led} {dp : Addr} {T : Nat → Nat → List Nat} {done : List (Nat × Nat)} {o o' : Obj} {ps : List (List Nat × Addr)} {d k : Nat} {t : List Nat} {a : Addr} {vs : List Value} {c : Nat} {tt : Tok}
theorem PostsAt.mono (P : PostsAt w nw0 dp T done l o ps) (hs : ∀ p ∈ l, (p ∈ nw0 ∨ p.2.cls = .type "dict" ∨ p.2.cls = .type "list") → p ∈ l') (hc : o.cls = .type "dict") : PostsAt w nw0 dp T done l' o ps :=
  ⟨hs _ P.mem (.inr (.inl hc)), P.dict, P.nodup, P.knodup, P.keys, fun p hp => let ⟨vs, c, h1, h2⟩ := P.docs p hp; ⟨vs, c, hs _ h1 (.inr (.inr rfl)), h2⟩, fun q hq => let ⟨h1, h2⟩ := P.old q hq; ⟨hs _ h1 (.inl hq), h2⟩, P.lo, P.len⟩
theorem PostsAt.cls (P : PostsAt w nw0 dp T done l o ps) : o.cls = .type "dict" := by
  (refine feed (KdkAt.of P.dict) ?_; refine x1_1 ?_; intro ep hat)
  (revert hat; refine x1_1 ?_; intro es; refine x0_2 ?_; intro h1 _)
  exact h1.1
theorem filter_snoc (T : Nat → Nat → List Nat) (done : List (Nat × Nat)) (d k : Nat) (u : List Nat) : ((done ++ [(d, k)]).filter fun q => decide (T q.1 q.2 = u)).map (fun q => (q.1 : Int)) =
    ((done.filter fun q => decide (T q.1 q.2 = u)).map fun q => (q.1 : Int)) ++ if T d k = u then [(d : Int)] else [] := by
  rw [List.filter_append, List.map_append]
  congr 1
  by_cases e : T d k = u <;> simp [e]
theorem PostsAt.there {h₀ h : Heap} {L : Addr} (P : PostsAt w nw0 dp T done l o ps) (N : News h₀ L h l) (hm : (t, a) ∈ ps) (ht : T d k = t) (hl : (a, listOf (List.toArray vs) c) ∈ l) (hI : IntsAre vs ((done.filter fun q => decide (T q.1 q.2 = t)).map fun q => (q.1 : Int))) :
    PostsAt w nw0 dp T (done ++ [(d, k)]) (put a (listOf ((List.toArray vs).push (.int d tt)) (c + 1)) l) o ps := by
  refine ⟨mem_put_of P.mem (ne_of_cls N P.mem hl (by rw [P.cls]; simp)), P.dict, P.nodup, P.knodup, fun u => ?_, fun p hp => ?_, fun q hq => ?_, P.lo, ?_⟩
  · rw [P.keys u]
    constructor
    · (refine x1_1 ?_; intro q; refine x0_2 ?_; intro h1 h2); exact y1_1 q (ya2 (List.mem_append_left _ h1) h2)
    · (refine x1_1 ?_; intro q; refine x0_2 ?_; intro h1 h2)
      rcases List.mem_append.mp h1 with h1 | h1
      · exact y1_1 q (ya2 h1 h2)
      · rw [List.mem_singleton.mp h1] at h2
        exact (P.keys u).1 (List.mem_map.mpr ⟨_, hm, ht.symm.trans h2⟩)
  · rw [filter_snoc]
    by_cases e : p.2 = a
    · have := nodup_snd P.nodup hp hm e
      subst this
      refine y2_1 (vs ++ [.int d tt]) (c + 1) (ya2 ?_ ?_)
      · rw [← List.push_toArray]; exact mem_put
      · rw [if_pos ht]; exact ints_snoc hI _ _
    · (refine feed (P.docs p hp) ?_; refine x2_1 ?_; intro vs' c'; refine x0_2 ?_; intro h1 h2)
      refine y2_1 vs' c' (ya2 (mem_put_of h1 e) ?_)
      rw [if_neg (fun q => e (by rw [nodup_fst P.knodup hp hm (q.symm.trans ht)])), List.append_nil]
      exact h2
  · (refine feed (P.old q hq) ?_; refine x0_3 ?_; intro h1 h2 h3)
    exact ⟨mem_put_of h1 (h3 _ hm), h2, h3⟩
  · rw [List.length_append]; exact Nat.le_succ_of_le P.len
theorem PostsAt.new {h₀ h : Heap} {L : Addr} (N : News h₀ L h l) (P : PostsAt w nw0 dp T done l o ps) (hn : t ∉ ps.map (·.1)) (ht : T d k = t) (hd : o'.IsDictOf (PySem.strKind prog w) (stored (ps.map pkv) (⟨t.toArray⟩ : Str) (.ref a))) (ha : ∀ q ∈ l, q.1 < a) (hv : valueAt (ps.map pkv) (⟨t.toArray⟩ : Str) = none) :
    PostsAt w nw0 dp T (done ++ [(d, k)]) (put a (listOf (Array.push #[] (.int d tt)) 1) (put dp o' ((a, listOf #[] 0) :: l))) o' (ps ++ [(t, a)]) := by
  have hdp : dp ≠ a := Nat.ne_of_lt (ha _ P.mem)
  have hpa : ∀ p ∈ ps, p.2 ≠ a := fun p hp => by
    (refine feed (P.docs p hp) ?_; refine x2_1 ?_; intro vs c; refine x0_2 ?_; intro h1 _)
    exact Nat.ne_of_lt (ha _ h1)
  have hst : stored (ps.map pkv) (⟨t.toArray⟩ : Str) (.ref a) = (ps ++ [(t, a)]).map pkv := by
    rw [List.map_append]
    unfold stored
    rw [if_neg]
    · rfl
    · intro hx
      (refine feed (List.any_eq_true.mp hx) ?_; refine x1_1 ?_; intro kv; refine x0_2 ?_; intro h1 h2)
      (refine feed (List.mem_map.mp h1) ?_; refine x1_1 ?_; intro p; refine x0_2 ?_; intro hp; intro zz9; subst zz9)
      exact hn (List.mem_map.mpr ⟨p, hp, str_inj (of_decide_eq_true h2)⟩)
  rw [hst] at hd
  refine ⟨mem_put_of mem_put hdp, hd, ?_, ?_, fun u => ?_, fun p hp => ?_, fun q hq => ?_, P.lo, ?_⟩
  · rw [List.map_append, List.nodup_append]
    refine ⟨P.nodup, by simp, ?_⟩
    intro x hx y hy e
    (refine feed (List.mem_map.mp hx) ?_; refine x1_1 ?_; intro p; refine x0_2 ?_; intro hp; intro zz9; subst zz9)
    simp at hy
    exact hpa p hp (e.trans hy)
  · rw [List.map_append, List.nodup_append]
    refine ⟨P.knodup, by simp, ?_⟩
    intro x hx y hy e
    simp at hy
    exact hn (by rw [← hy, ← e]; exact hx)
  · rw [List.map_append, List.mem_append, P.keys u]
    constructor
    · rintro (⟨q, h1, h2⟩ | h1)
      · exact y1_1 q (ya2 (List.mem_append_left _ h1) h2)
      · have : u = t := by simpa using h1
        exact y1_1 (d, k) (ya2 (List.mem_append_right _ (.head _)) (by rw [this]; exact ht))
    · (refine x1_1 ?_; intro q; refine x0_2 ?_; intro h1 h2)
      rcases List.mem_append.mp h1 with h1 | h1
      · exact .inl ⟨q, h1, h2⟩
      · rw [List.mem_singleton.mp h1] at h2
        exact .inr (by rw [← h2, ht]; simp)
  · rw [filter_snoc]
    rcases List.mem_append.mp hp with hp | hp
    · (refine feed (P.docs p hp) ?_; refine x2_1 ?_; intro vs' c'; refine x0_2 ?_; intro h1 h2)
      refine y2_1 vs' c' (ya2 (mem_put_of (mem_put_of (.tail _ h1) (fun e => ?_)) (hpa p hp)) ?_)
      · exact absurd e (ne_of_cls N h1 P.mem (by rw [P.cls]; simp))
      · rw [if_neg (fun q => hn (by rw [← ht, q]; exact List.mem_map_of_mem hp)), List.append_nil]
        exact h2
    · rw [List.mem_singleton.mp hp]
      have h0 : (done.filter fun q => decide (T q.1 q.2 = t)) = [] := by
        rw [List.filter_eq_nil_iff]
        intro q hq e
        exact hn ((P.keys t).2 ⟨q, hq, of_decide_eq_true e⟩)
      refine y2_1 ([.int d tt]) 1 (ya2 mem_put ?_)
      rw [h0, if_pos ht]
      exact .cons _ _ .nil
  · (refine feed (P.old q hq) ?_; refine x0_3 ?_; intro h1 h2 h3)
    refine ⟨mem_put_of (mem_put_of (.tail _ h1) h2) (Nat.ne_of_lt (ha _ h1)), h2, fun p hp => ?_⟩
    rcases List.mem_append.mp hp with hp | hp
    · exact h3 p hp
    · rw [List.mem_singleton.mp hp]; exact Nat.ne_of_lt (ha _ h1)
  · rw [List.length_append, List.length_append]; exact Nat.add_le_add_right P.len 1
end
end Post0
section Law1
noncomputable def ls7s : {x : Stmt // x = lsAt 7} := ⟨_, by conv => rhs; whnf⟩
noncomputable def ls8s : {x : Stmt // x = lsAt 8} := ⟨_, by conv => rhs; whnf⟩
section
variable {w : World} {A A₀ : Around} {base : Heap} {outer : List Env} {s : Shared} {h₀ : Heap} {L fa : Addr} {cd : Value} {m : Str → Option Value} {nw : Led} {E : Value → Shared → Prop} {Q : Flow → Shared → Prop} {sl : Addr} {vs : List Value} {ns : List Int} {ts : Tok}
section
local macro_rules | `(tactic| walk_at $s:str) => do
  let k := Lean.Syntax.mkStrLit ("L6:" ++ s.getString)
  `(tactic| k_extra $k)
local macro_rules | `(tactic| walk_at "zz") => `(tactic| skip)
theorem law_s7 (C : LawC w A A₀ base outer h₀ L fa cd) (F : Fr h₀ L s.heap m) (N : News h₀ L s.heap nw) {oc : Obj} {v : Option Value} (hc : (L + 1 + 1 + 1, oc) ∈ nw) (hcd : oc.data = .cell v)
    (h : ∀ h' tk' o' l, Fr h₀ L h' m → News h₀ L h' (put (L + 1 + 1 + 1) o' ((l, listOf #[] 0) :: nw)) → (∀ p ∈ nw, p.1 < l) → o'.data = .cell (some (.ref l)) → Q .next ⟨h', s.gens, s.drawn, tk', s.os⟩) :
    wpAny (model prog w) A (exec ls7s.1 (envL L fa cd)) Q E s := by
  obtain ⟨B, X, ⟨lo, mean, mg, mb, T⟩, hA, hh, hd, hu, -, -, -⟩ := C
  dsimp only [ls7s, envL]
  k_with "L6:storeName" => (k_here; refine stop_of ?_)
  k_steps
  refine Stop.out ?_
  rename Fr h₀ L _ _ => F9
  rename News h₀ L _ _ => N9
  refine store_cellM (env := envL L fa cd) F9 N9 (.tail _ hc) hcd rfl rfl rfl fun h' o' F' N' hd' => ?_
  exact h _ _ o' _ F' N' (by with_reducible assumption) hd'
end
theorem ints_at {vs : List Value} {ns : List Int} (h : IntsAre vs ns) {i : Nat} {v : Value} (hv : vs[i]? = some v) : ∃ x t, v = .int x t := by
  have hl : i < ns.length := by rw [← h.length]; exact (List.getElem?_eq_some_iff.mp hv).1
  obtain ⟨t, e⟩ := h.get i ns[i] (List.getElem?_eq_getElem hl)
  exact y2_1 _ t (Option.some.inj (hv.symm.trans e))
/-- the slice has six items at most -/
theorem six_le (n : Nat) : min 9 n - min 3 n ≤ 6 := by
  refine Nat.sub_le_of_le_add ?_
  rcases Nat.le_total 3 n with h | h
  · rw [Nat.min_eq_left h]; exact Nat.min_le_left _ _
  · rw [Nat.min_eq_right h]; exact Nat.le_trans (Nat.min_le_right _ _) (Nat.le_add_left _ _)
theorem pick_six (vs : List Value) : (slicePick vs.toArray (some 3) (some 9) none).toList.length ≤ 6 := by
  rw [slicePick_plain, List.toList_toArray, List.length_take]
  have h1 := clipAt_nat vs.toArray.size 3
  have h2 := clipAt_nat vs.toArray.size 9
  simp only [Option.elim]
  have e1 : clipAt vs.toArray.size (3 : Int) = min 3 vs.toArray.size := h1
  have e2 : clipAt vs.toArray.size (9 : Int) = min 9 vs.toArray.size := h2
  rw [e1, e2]
  exact Nat.le_trans (Nat.min_le_left _ _) (six_le _)
/-- the numbers so far -/
noncomputable def NumsJ (nw : Led) (l D it : Addr) (ws : List Value) (z : Nat) (n : Nat) (_ : Unit) (nw₁ : Led) : Prop :=
  ∃ i vs' c' oi, ∃ xs : List Nat, n = ws.length - i ∧ i ≤ ws.length ∧ (it, oi) ∈ nw₁ ∧ ListIt oi D i ∧ (l, listOf (List.toArray vs') c') ∈ nw₁ ∧ IntsAre vs' (xs.map Nat.cast) ∧ xs.length = i ∧ (∀ x ∈ xs, x < 2 ^ z) ∧ (∀ p ∈ nw, p.1 ≠ l → p ∈ nw₁) ∧ (D, listOf ws.toArray 0) ∈ nw₁
section
local macro_rules | `(tactic| walk_at $s:str) => do
  let k := Lean.Syntax.mkStrLit ("L7:" ++ s.getString)
  `(tactic| k_extra $k)
theorem law_s8 (C : LawC w A A₀ base outer h₀ L fa cd) (F : Fr h₀ L s.heap m) (N : News h₀ L s.heap nw) (ms : m (Str.ofString "script") = some (.ref sl)) (hl : h₀.IsList sl vs.toArray) (hI : IntsAre vs ns) (hL : (PyData.list (List.map PyData.int ns)).layable0 = true) (hk : ¬ ((63 : Nat) : Int) < (ns.length : Int))
    {z st a b : Nat} {t1 ta tb : Tok} {o1 o2 o3 : Obj} {l : Addr} (kz : KindOk z st) (mz : m (Str.ofString "size") = some (.int (z : Nat) t1)) (hc1 : (L + 1, o1) ∈ nw) (hd1 : o1.data = .cell (some (.int a ta))) (hc2 : (L + 1 + 1, o2) ∈ nw) (hd2 : o2.data = .cell (some (.int b tb)))
    (hc3 : (L + 1 + 1 + 1, o3) ∈ nw) (hd3 : o3.data = .cell (some (.ref l))) (hln : (l, listOf #[] 0) ∈ nw) (hE : PassesOwn (model prog w) A (envL L fa cd) E)
    (h : ∀ h₀' h' tk' m' nw' vs' c', ∀ xs : List Nat, TurnS A₀ base outer h₀ h₀' → Fr h₀' L h' m' → News h₀' L h' nw' → (∀ p ∈ nw, p.1 ≠ l → p ∈ nw') → (l, listOf (List.toArray vs') c') ∈ nw' → IntsAre vs' (xs.map Nat.cast) → xs.length ≤ 6 → (∀ x ∈ xs, x < 2 ^ z) → (∀ y, y ∉ [Str.ofString "number", "rest"] → m' y = m y) → Q .next ⟨h', s.gens, s.drawn, tk', s.os⟩) :
    wpAny (model prog w) A (exec ls8s.1 (envL L fa cd)) Q E s := by
  obtain ⟨B, X, ⟨lo, mean, mg, mb, T⟩, hA, hh, hd, hu, XB, TB, D⟩ := C
  replace XB := Stop.out XB
  replace TB := Stop.out TB
  have hnm : ∀ p ∈ [(Str.ofString "script", Value.ref sl)], m p.1 = some p.2 := by
    intro p hp
    simp only [List.mem_cons, List.not_mem_nil, or_false] at hp
    subst hp; exact ms
  replace F := fr_congr F (over_self hnm)
  dsimp only [over] at F
  dsimp only [ls8s, envL]
  k_with "L7:exec For Name Subscript cons nil" => (refine stop_of ?_)
  k_with "L7:pyIter ref" => (refine stop_of ?_)
  k_with "L7:subscriptTail Name Slice ref ref" => (k_here; refine stop_of ?_)
  k_with "L7:getMethod ref" => (k_here; (with_reducible show wpAny _ _ (getMethod (Value.ref _) (Str.ofString "append") _) _ _ _); k_dflt (refine' kl_method (by k_asm) (by k_mem) PySem.F.slot_list_append PySem.F.type_list_append ?_))
  k_with "L7:call builtin:list.append" => (k_here; (with_reducible show wpAny _ _ (call (Value.builtin "list.append") [Value.ref _, _]) _ _ _); k_dflt (refine' append_M (by k_asm) (by k_asm) (by k_mem) (by with_reducible assumption) ?_); intro hq Fq Nq)
  refine fillIt ?_
  k_fill
  intro _
  w_strict (
    k_steps
    refine Stop.out ?_
    refine wpAny_For ?_
    k_steps
    refine Stop.out ?_
    refine kmk_slice_ints F N (F.lst hl) (by constructor) (by constructor) hI (hI.pick _ _ _) rfl ?_ (by with_unfolding_all rfl) (by intro _; with_unfolding_all rfl) ?_
    rotate_left
    · rw [List.size_toArray, hI.length]
      have : ns.length ≤ 63 := by lia
      exact Nat.le_trans this (by decide)
    intro Dl ws hD FD ND lD hIw hlw hle
    dsimp only
    have hDl : Dl ≠ l := Nat.ne_of_gt (lD _ hln)
    have hw6 : ws.length ≤ 6 := by
      rw [hIw.length, ← (hI.pick (some 3) (some 9) none).length]
      exact pick_six vs
    refine list_iter (env := envL L fa cd) FD ND (.head _) ?_
    intro h₁ it oi F₁ N₁ hal hIt
    refine For_S (α := Unit) (env := envL L fa cd) (fun _ => []) (fun y => y ∈ [Str.ofString "number", "rest"]) (NumsJ nw l Dl it ws z) () ws.length ⟨.refl, B, D⟩ F₁ N₁ (fun _ hp => nomatch hp) ?hJ ?turn hE
    case hJ => exact y5_1 0 ([]) 0 oi ([]) (ya10 rfl (Nat.zero_le _) (.head _) hIt (.tail _ (.tail _ hln)) .nil rfl (fun _ hx => nomatch hx) (fun p hp _ => .tail _ (.tail _ hp)) (.tail _ (.head _)))
    case turn =>
      intro KW hKW
      (intro n; rintro ⟨⟩; intro g₁ m₁ nw₁ h₁ tk₁; refine TurnS.el ?_; intro tT tB tD; intro F₁ N₁ hn₁ hm₁; refine x5_1 ?_; intro i vs' c' oi xs; refine x0_10 ?_; intro zz9; subst zz9; intro hil hit hIt hl' hI' hx1 hx2 hkp hD')
      have hmm : ∀ y, y ∉ [Str.ofString "number", "rest"] → m₁ y = m y := fun y hy => (hm₁ y hy (fun _ hp => nomatch hp)).trans (over_self hnm y).symm
      have XX := (stop_of XB).keeps tB.stays
      (refine feed (stop_of TB) ?_; refine x4_1 ?_; intro lo' mean' mg' mb' TB')
      have TT := TB'.keeps tB.stays
      clear TB'
      refine list_next (env := envL L fa cd) hh rfl rfl F₁ N₁ hit hIt hD' ?_ ?_
      · intro v h₂ tk₂ oi₂ hv F₂ N₂ hIt₂
        (refine feed (ints_at hIw hv) ?_; refine x2_1 ?_; intro x t; intro zz9; subst zz9)
        have hiw : i < ws.length := (List.getElem?_eq_some_iff.mp hv).1
        replace F₂ := frame_of (nms := [(Str.ofString "number", .int x t), (Str.ofString "size", .int (z : Nat) t1)]) (ls := [Str.ofString "rest"]) (m₀ := m) F₂ (by
          intro p hp
          simp only [List.mem_cons, List.not_mem_nil, or_false] at hp
          rcases hp with rfl | rfl
          · rfl
          · exact (if_neg (show ¬ Str.ofString "size" = Str.ofString "number" by decide)).trans ((hmm _ (show Str.ofString "size" ∉ [Str.ofString "number", "rest"] by decide)).trans mz)) (fun y hy hyn => by
            have h1 := hyn _ (.head _)
            refine (if_neg h1).trans (hmm y ?_)
            intro hm
            rcases List.mem_cons.mp hm with hm | hm
            · exact h1 hm
            · exact hy hm)
        dsimp only [over, mask] at F₂
        have hvl : vs'.length = i := by rw [hI'.length, List.length_map, hx1]
        have hsz : (List.toArray vs').size ≤ sizeLine := by
          rw [List.size_toArray, hvl]
          exact Nat.le_trans (show i ≤ 6 by lia) (by decide)
        have hitl : it ≠ l := ne_of_cls N₁ hit hl' (by rw [hIt.1]; simp)
        have hitD : it ≠ Dl := ne_of_cls N₁ hit hD' (by rw [hIt.1]; simp)
        have cn : ∀ {c : Addr} {o : Obj} {v : Value}, (c, o) ∈ nw → o.data = .cell (some v) → (c, o) ∈ put it oi₂ nw₁ := fun hm hd => by
          have k1 := hkp _ hm (ne_of_obj N hm hln fun e => by rw [e] at hd; cases hd)
          exact mem_put_of k1 (ne_of_obj N₁ k1 hit fun e => by rw [e, hIt.2] at hd; cases hd)
        have q1 := cn hc1 hd1
        have q2 := cn hc2 hd2
        have q3 := cn hc3 hd3
        have q4 : (l, listOf (List.toArray vs') c') ∈ put it oi₂ nw₁ := mem_put_of hl' hitl.symm
        generalize hled : put it oi₂ nw₁ = led at N₂ q1 q2 q3 q4
        clear cn
        have kb := kz.b
        have fin : Stop (∀ s₁ h' tk' e t m', Fr g₁ L h' m' → News g₁ L h' (put l (listOf ((List.toArray vs').push (.int (Int.fmod e (1 * 2 ^ (z : Int).toNat)) t)) (c' + 1)) led) → (∀ y, y ∉ [Str.ofString "number", "rest"] → m' y = m y) →
            WPost A₀ base outer h₀ L (fun _ => []) (fun y => y ∈ [Str.ofString "number", "rest"]) (fun x => if x = Str.ofString "script" then some (Value.ref sl) else m x) (NumsJ nw l Dl it ws z) (ws.length - i) Q s₁ .next { s₁ with heap := h', toks := tk' }) := by
          refine Stop.out fun s₁ h' tk' e t m' F' N' hm' => ?_
          rw [fmod_pow] at N'
          refine WPost.intro () (ws.length - (i + 1)) ⟨tT, tB, tD⟩ F' N' (fun _ hp => nomatch hp) (fun y hy _ => (hm' y hy).trans (over_self hnm y)) (by lia) ⟨i + 1, vs' ++ [.int ((e % 2 ^ z).toNat : Nat) t], c' + 1, oi₂, xs ++ [(e % 2 ^ z).toNat], rfl, hiw, mem_put_of (by rw [← hled]; exact mem_put) hitl, hIt₂, ?_, ?_, ?_, ?_, ?_, ?_⟩
          · rw [List.push_toArray] at *; exact mem_put
          · rw [List.map_append]; exact ints_snoc hI' _ _
          · rw [List.length_append, hx1]; rfl
          · intro y hy
            rcases List.mem_append.mp hy with hy | hy
            · exact hx2 y hy
            · rw [List.mem_singleton.mp hy]; exact mod_lt_pow _ _
          · intro p hp hn
            have k1 := hkp p hp hn
            have k2 : p.1 ≠ it := fun e => by
              have e' : p = (it, oi) := Prod.ext e (same_at N₁ (e ▸ k1 : (it, p.2) ∈ nw₁) hit)
              have := allLt_ne hal _ (.tail _ hp)
              exact this e
            exact mem_put_of (by rw [← hled]; exact mem_put_of k1 k2) hn
          · exact mem_put_of (by rw [← hled]; exact mem_put_of hD' hitD.symm) hDl
        have hN₁ := Stop.out N₁
        clear N₁ F₁ N F ND FD hmm hm₁
        k_steps
        all_goals
          rename Fr g₁ L _ _ => F9
          rename News g₁ L _ (put l _ _) => N9
          refine hKW _ _ _ ?_
          refine stop_of fin _ _ _ _ _ _ F9 N9 fun y hy => ?_
          simp only [List.mem_cons, List.not_mem_nil, or_false, not_or] at hy
          show (if y = _ then _ else if y = _ then _ else if y = Str.ofString "size" then _ else if y = _ then _ else m y) = m y
          rw [if_neg hy.2, if_neg hy.1, if_neg hy.2]
          by_cases e : y = Str.ofString "size"
          · rw [if_pos e, e, mz]
          · rw [if_neg e]
      · intro h₂ hv F₂ N₂
        have hi : ws.length ≤ i := List.getElem?_eq_none_iff.mp hv
        refine wpAny_execs_nil ?_
        refine h _ _ _ m₁ (del it nw₁) vs' c' xs ⟨tT, tB, tD⟩ F₂ N₂ (fun p hp hn => ?_) (mem_del_of hl' (ne_of_cls N₁ hl' hit (by rw [hIt.1]; simp))) hI' (by lia) hx2 hmm
        have k1 := hkp p hp hn
        exact mem_del_of k1 fun e => allLt_ne hal _ (.tail _ hp) e)
end
end
end Law1
section Law2
noncomputable abbrev rngIt (x left step : Int) : Obj := { cls := .type "range_iterator", dict := none, data := .fields #[rawInt x, rawInt left, rawInt step], slots := #[] }
section
variable {w : World} {A A₀ : Around} {base : Heap} {outer : List Env} {E : Value → Shared → Prop} {s : Shared} {env : Env} {g : Heap} {L : Addr} {m : Str → Option Value} {nw : Led} {D P : Shared → Prop}
theorem range_iter {r : Addr} {a b c : Int} {t u v : Tok} {Q : Value → Shared → Prop} (F : Fr g L s.heap m) (N : News g L s.heap nw) (hr : IsRange s.heap r a b c t u v) (hsmall : Builtin.Range.small a b c = true)
    (h : ∀ h' it, Fr g L h' m → News g L h' ((it, rngIt a (Builtin.Range.rangeSize a b c) c) :: nw) → AllLt it nw → Q (.ref it) { s with heap := h' }) : wpAny (model prog w) A (pyIter (.ref r)) Q E s := by
  refine wpAny_pyIter_range hr hsmall ?_
  obtain ⟨F', N'⟩ := led_new (h' := s.heap.push (rngIt a (Builtin.Range.rangeSize a b c) c)) F N (fun b x e => Heap.get?_push_of_some _ e) (Nat.le_refl _) (Heap.get?_push_size _ rfl)
  exact h _ _ F' N' (allLt_of fun p hp => Heap.lt_size (N p hp).1)
theorem range_next {it : Addr} {a left c : Int} {x : Str} {px : Pos} (hh : A.handled = none) (hx : env.kindOf x = some .local) (hp : (env.scope.kind == .class || (env.scope.kind == .module && env.locals != env.globals)) = false)
    (F : Fr g env.locals s.heap m) (N : News g env.locals s.heap nw) (hi : (it, rngIt a left c) ∈ nw)
    (item : 0 < left → ∀ h' tk t, Fr g env.locals h' (fun z => if z = x then some (.int a t) else m z) → News g env.locals h' (put it (rngIt (a + c) (left - 1) c) nw) → P { s with heap := h', toks := tk })
    (done : left ≤ 0 → ∀ h', Fr g env.locals h' m → News g env.locals h' (del it nw) → D { s with heap := h' }) : NextTo w A env (.Name x px) (.ref it) D P E s := by
  have hit : IsRangeIter s.heap it a left c := (N _ hi).1
  by_cases hl : 0 < left
  · refine wpAny_pyNext_range_item hit hl fun h₁ hit' hs₁ => ?_
    replace hs₁ : Heap.SameBut it s.heap h₁ := hs₁
    (refine feed (led_set F N hi hs₁ hit') ?_; refine x0_2 ?_; intro F₁ N₁)
    show wpAny _ _ (pure ()) _ _ _
    refine wpAny_pure ?_
    exact assign_name (s := { s with heap := h₁, toks := s.toks + 1 }) hx hp F₁ N₁ fun h' tk F' N' => item hl h' tk _ F' N'
  · refine wpAny_pyNext_range_end hh hit (by lia) fun h₁ he₁ => ?_
    replace he₁ : Heap.ExtBut it s.heap h₁ := he₁
    (refine feed (led_but F N hi (fun b x hb e => he₁ b x hb e)) ?_; refine x0_2 ?_; intro F' N')
    exact done (by lia) h₁ F' N'
end
/-- the terms made so far: all of the documents ahead of i, k of document i -/
noncomputable def doneP (nl i k : Nat) : List (Nat × Nat) := ((List.range i).flatMap fun d => (List.range (nl + 1)).map fun j => (d, j)) ++ (List.range k).map fun j => (i, j)
theorem doneP_succ (nl i k : Nat) : doneP nl i (k + 1) = doneP nl i k ++ [(i, k)] := by
  unfold doneP
  rw [List.range_succ (n := k), List.map_append (l₁ := List.range k), List.append_assoc]; rfl
theorem doneP_next (nl i : Nat) : doneP nl (i + 1) 0 = doneP nl i (nl + 1) := by
  unfold doneP
  rw [List.range_succ (n := i), List.flatMap_append]
  simp only [List.flatMap_cons, List.flatMap_nil, List.append_nil, List.range_zero, List.map_nil]
noncomputable def termL (z st : Nat) (xs : List Nat) (d k : Nat) : List Nat := (33 + k * st) :: digs (if (z : Int) = 64 then 10 else 5) (xs.getD d 0 / 2 ^ (k * st)) []
noncomputable def ls9s : {x : Stmt // x = lsAt 9} := ⟨_, by conv => rhs; whnf⟩
noncomputable def ls10s : {x : Stmt // x = lsAt 10} := ⟨_, by conv => rhs; whnf⟩
section
variable {w : World} {A A₀ : Around} {base : Heap} {outer : List Env} {s : Shared} {h₀ : Heap} {L fa : Addr} {cd : Value} {m : Str → Option Value} {nw : Led} {E : Value → Shared → Prop} {Q : Flow → Shared → Prop}
theorem law_s9 (C : LawC w A A₀ base outer h₀ L fa cd) (F : Fr h₀ L s.heap m) (N : News h₀ L s.heap nw) {T : Nat → Nat → List Nat}
    (h : ∀ h' tk' dp o m' l, Fr h₀ L h' m' → News h₀ L h' l → PostsAt w nw dp T [] l o [] → SetTo m m' (Str.ofString "posts") (.ref dp) → Q .next ⟨h', s.gens, s.drawn, tk', s.os⟩) :
    wpAny (model prog w) A (exec ls9s.1 (envL L fa cd)) Q E s := by
  obtain ⟨B, X, ⟨lo, mean, mg, mb, T⟩, hA, hh, hd, hu, -, -, -⟩ := C
  dsimp only [ls9s, envL]
  k_steps
  rename Fr h₀ L _ _ => F9
  rename News h₀ L _ _ => N9
  rename Obj.IsDictOf (PySem.strKind _ _) _ [] => d9
  rename (_ == sysModules) = false => lo9
  rename (∀ p : Addr × Obj, p ∈ nw → p.1 < _) => l9
  exact h _ _ _ _ _ _ F9 N9 ⟨.head _, d9, List.nodup_nil, List.nodup_nil, fun t => by simp, (fun _ h => nomatch h), fun q hq => ⟨.tail _ hq, Nat.ne_of_lt (l9 _ hq), (fun _ h => nomatch h)⟩, lo9, Nat.le_refl _⟩ (SetTo.of (l := []) (fun _ h => nomatch h))
noncomputable def kN (z st : Nat) : Nat := (z - 1) / st
theorem KindOk.rows {z st : Nat} (k : KindOk z st) : kN z st ≤ 3 ∧ kN z st * st < z ∧ z ≤ (kN z st + 1) * st ∧ Builtin.Range.small 0 z st = true ∧ Builtin.Range.rangeSize 0 z st = (kN z st + 1 : Nat) := by
  simp only [KindOk, List.mem_cons, Prod.mk.injEq, List.not_mem_nil, or_false] at k
  rcases k with ⟨rfl, rfl⟩ | ⟨rfl, rfl⟩ | ⟨rfl, rfl⟩ | ⟨rfl, rfl⟩ | ⟨rfl, rfl⟩ | ⟨rfl, rfl⟩ | ⟨rfl, rfl⟩ | ⟨rfl, rfl⟩ <;> decide
theorem range_six {n : Nat} (h : n ≤ 6) : Builtin.Range.small 0 n 1 = true ∧ Builtin.Range.rangeSize 0 n 1 = n := by
  have : n = 0 ∨ n = 1 ∨ n = 2 ∨ n = 3 ∨ n = 4 ∨ n = 5 ∨ n = 6 := by lia
  rcases this with rfl | rfl | rfl | rfl | rfl | rfl | rfl <;> decide
noncomputable def OutJ (w : World) (nw0 : Led) (dp : Addr) (T : Nat → Nat → List Nat) (n nl : Nat) (itd : Addr) (r : Nat) (_ : Unit) (l : Led) : Prop :=
  ∃ i o ps, r = n - i ∧ i ≤ n ∧ (itd, rngIt (i : Nat) ((n : Int) - i) 1) ∈ l ∧ PostsAt w nw0 dp T (doneP nl i 0) l o ps
noncomputable def InnJ (w : World) (nw0 : Led) (dp : Addr) (T : Nat → Nat → List Nat) (n nl st i : Nat) (itd its : Addr) (r : Nat) (_ : Unit) (l : Led) : Prop :=
  ∃ k o ps, r = nl + 1 - k ∧ k ≤ nl + 1 ∧ (its, rngIt ((k * st : Nat) : Int) (((nl + 1 : Nat) : Int) - k) st) ∈ l ∧ (itd, rngIt ((i : Int) + 1) ((n : Int) - i - 1) 1) ∈ l ∧ PostsAt w nw0 dp T (doneP nl i k) l o ps
theorem doneP_len (nl i k : Nat) : (doneP nl i k).length = i * (nl + 1) + k := by
  induction i generalizing k with
  | zero => simp [doneP]
  | succ i ih =>
    have h : ∀ k, (doneP nl (i + 1) k).length = (doneP nl (i + 1) 0).length + k := fun k => by simp [doneP]
    rw [h, doneP_next, ih, Nat.succ_mul]
theorem inn_fin {w : World} {nw0 l : Led} {dp itd its : Addr} {T : Nat → Nat → List Nat} {n nl st i k tk' : Nat} {A₀ : Around} {base g₁ g₂ h' : Heap} {outer : List Env} {L : Addr} {m₀ m' : Str → Option Value} {Q : Flow → Shared → Prop} {s₁ : Shared} {o : Obj} {ps : List (List Nat × Addr)}
    (t : TurnS A₀ base outer g₁ g₂) (F : Fr g₂ L h' m') (N : News g₂ L h' l) (hm : ∀ y, y ∉ [Str.ofString "shift"] → m' y = m₀ y) (hk : k < nl + 1) (h2 : (its, rngIt (((k * st : Nat) : Int) + st) (((nl + 1 : Nat) : Int) - k - 1) st) ∈ l) (h3 : (itd, rngIt ((i : Int) + 1) ((n : Int) - i - 1) 1) ∈ l)
    (P : PostsAt w nw0 dp T (doneP nl i k ++ [(i, k)]) l o ps) : WPost A₀ base outer g₁ L (fun _ => []) (fun y => y ∈ [Str.ofString "shift"]) m₀ (InnJ w nw0 dp T n nl st i itd its) (nl + 1 - k) Q s₁ .next { s₁ with heap := h', toks := tk' } := by
  have e1 : (((k + 1) * st : Nat) : Int) = ((k * st : Nat) : Int) + st := by rw [Nat.succ_mul]; rfl
  have e2 : ((nl + 1 : Nat) : Int) - ((k + 1 : Nat) : Int) = ((nl + 1 : Nat) : Int) - k - 1 := by lia
  refine WPost.intro () (nl + 1 - (k + 1)) t F N (fun _ hp => nomatch hp) (fun y hy _ => hm y hy) (by lia) ⟨k + 1, o, ps, rfl, hk, ?_, h3, ?_⟩
  · rw [e1, e2]; exact h2
  · rw [doneP_succ]; exact P
section
local macro_rules | `(tactic| walk_at $s:str) => do
  let k := Lean.Syntax.mkStrLit ("L8:" ++ s.getString)
  `(tactic| k_extra $k)
local macro_rules | `(tactic| walk_at "zz") => `(tactic| skip)
theorem law_s10 (C : LawC w A A₀ base outer h₀ L fa cd) (F : Fr h₀ L s.heap m) (N : News h₀ L s.heap nw) {nw0 : Led} {dp : Addr} {z st : Nat} {t1 t2 : Tok} {xs : List Nat} {o : Obj} {o3 : Obj} {ln : Addr} {vsn : List Value} {cn : Nat} (P : PostsAt w nw0 dp (termL z st xs) [] nw o []) (kz : KindOk z st)
    (mz : m (Str.ofString "size") = some (.int (z : Nat) t1)) (mt : m (Str.ofString "step") = some (.int (st : Nat) t2)) (mp : m (Str.ofString "posts") = some (.ref dp)) (hc3 : (L + 1 + 1 + 1, o3) ∈ nw0) (hd3 : o3.data = .cell (some (.ref ln))) (hln : (ln, listOf (List.toArray vsn) cn) ∈ nw0) (hI : IntsAre vsn (xs.map Nat.cast)) (hx6 : xs.length ≤ 6) (hxz : ∀ x ∈ xs, x < 2 ^ z)
    (hE : PassesOwn (model prog w) A (envL L fa cd) E)
    (h : ∀ h₀' h' tk' m' nw' o' ps, TurnS A₀ base outer h₀ h₀' → Fr h₀' L h' m' → News h₀' L h' nw' → PostsAt w nw0 dp (termL z st xs) (doneP (kN z st) xs.length 0) nw' o' ps → (∀ y, y ∉ [Str.ofString "document", "shift"] → m' y = m y) → Q .next ⟨h', s.gens, s.drawn, tk', s.os⟩) :
    wpAny (model prog w) A (exec ls10s.1 (envL L fa cd)) Q E s := by
  obtain ⟨B, X, ⟨lo, mean, mg, mb, T⟩, hA, hh, hd, hu, XB, TB, D⟩ := C
  replace XB := Stop.out XB
  replace TB := Stop.out TB
  (refine feed (kz.rows) ?_; refine x0_5 ?_; intro hk1 hk2 hk3 hk4 hk5)
  have hcz := P.old _ hc3
  have hlz := P.old _ hln
  have hvl : vsn.length = xs.length := by rw [hI.length, List.length_map]
  have hvals : Stop (∀ i, i < xs.length → ∃ tx, vsn.getD i .none = .int ((xs.getD i 0 : Nat) : Int) tx) := by
    refine Stop.out fun i hi => ?_
    have e1 : (xs.map (Nat.cast (R := Int)))[i]? = some ((xs.getD i 0 : Nat) : Int) := by
      rw [List.getElem?_map, List.getD_eq_getElem?_getD, List.getElem?_eq_getElem hi]; rfl
    (refine feed (hI.get i _ e1) ?_; refine x1_1 ?_; intro tx e2)
    exact y1_1 tx (by rw [List.getD_eq_getElem?_getD, e2]; rfl)
  have q3 := hcz.1
  have q4 := hlz.1
  have hz1 : vsn.length < 1000 := by lia
  dsimp only [ls10s, envL]
  k_with "L8:pyIter ref" => (refine stop_of ?_)
  k_with "L8:exec For Name Call cons nil" => (refine stop_of ?_)
  k_with "L8:call type:range" => (k_here; (with_reducible show wpAny _ _ (call (Value.type "range") [Value.int _ _, Value.int _ _, Value.int _ _]) _ _ _); refine stop_of ?_)
  k_with "L8:subscriptTail Name Name ref int" => (k_here; refine stop_of ?_)
  k_with "L8:call builtin:dict.setdefault" => (k_here; refine stop_of ?_)
  k_with "L8:getMethod ref" => (k_here; (with_reducible show wpAny _ _ (getMethod (Value.ref _) (Str.ofString "append") _) _ _ _); k_dflt (refine' kl_method (by k_asm) (by k_mem) PySem.F.slot_list_append PySem.F.type_list_append ?_))
  k_with "L8:call builtin:list.append" => (k_here; (with_reducible show wpAny _ _ (call (Value.builtin "list.append") [Value.ref _, _]) _ _ _); k_dflt (refine' append_M (by k_asm) (by k_asm) (by k_mem) (by with_reducible assumption) ?_); intro hq Fq Nq)
  k_with "L8:call ref" => (k_here; (with_reducible show wpAny _ _ (call (Value.ref 451) _) _ _ _); refine stop_of ?_)
  k_with "L8:call builtin:len" => (k_here; (with_reducible show wpAny _ _ (call (Value.builtin "len") [Value.ref _]) _ _ _); k_dflt (refine' len_list_M (by k_asm) (by k_mem) (by with_reducible assumption) ?_); intro tq tkq)
  refine fillIt ?_
  k_fill
  intro _
  w_strict (
    k_steps
    refine Stop.out ?_
    refine wpAny_For ?_
    k_steps
    refine Stop.out ?_
    rename IsRange _ _ _ _ _ _ _ _ => hR
    rename Fr h₀ L _ m => F1
    rename News h₀ L _ nw => N1
    simp only [List.length_map] at hR
    refine range_iter (g := h₀) F1 N1 hR (range_six hx6).1 ?_
    intro hA1 itd FA NA hal
    rw [(range_six hx6).2] at NA
    refine For_S (α := Unit) (env := envL L fa cd) (fun _ => []) (fun y => y ∈ [Str.ofString "document", "shift"]) (OutJ w nw0 dp (termL z st xs) xs.length (kN z st) itd) () xs.length ⟨.refl, B, D⟩ FA NA (fun _ hp => nomatch hp) ?hJ ?turn hE
    case hJ => exact y3_1 0 o ([]) (ya4 rfl (Nat.zero_le _) (by rw [Int.natCast_zero, Int.sub_zero]; exact .head _) (P.mono (fun p hp _ => .tail _ hp) P.cls))
    case turn =>
      intro KW hKW
      (intro n; rintro ⟨⟩; intro g₁ m₁ nw₁ h₁ tk₁; refine TurnS.el ?_; intro tT tB tD; intro F₁ N₁ hn₁ hm₁; refine x3_1 ?_; intro i o₁ ps₁; refine x0_4 ?_; intro zz9; subst zz9; intro hil hit P₁)
      have hmm : ∀ y, y ∉ [Str.ofString "document", "shift"] → m₁ y = m y := fun y hy => hm₁ y hy (fun _ hp => nomatch hp)
      have XX := (stop_of XB).keeps tB.stays
      (refine feed (stop_of TB) ?_; refine x4_1 ?_; intro lo' mean' mg' mb' TB')
      have TT := TB'.keeps tB.stays
      clear TB'
      have hne1 : ∀ p ∈ nw₁, (p ∈ nw0 ∨ p.2.cls = .type "dict" ∨ p.2.cls = .type "list") → p.1 ≠ itd := fun p hp hc e => by
        have e' : p.2 = _ := same_at N₁ (show (itd, p.2) ∈ nw₁ by rw [← e]; exact hp) hit
        rcases hc with hc | hc | hc
        · exact allLt_ne hal _ ((P.old _ hc).1) e
        · rw [e'] at hc; simp at hc
        · rw [e'] at hc; simp at hc
      refine range_next (env := envL L fa cd) hh rfl rfl F₁ N₁ hit ?_ ?_
      · intro hlt h₂ tk₂ td F₂ N₂
        have hi : i < xs.length := by lia
        replace F₂ := frame_of (nms := [(Str.ofString "document", .int (i : Nat) td), (Str.ofString "size", .int (z : Nat) t1), (Str.ofString "step", .int (st : Nat) t2), (Str.ofString "posts", .ref dp)]) (ls := [Str.ofString "shift"]) (m₀ := m) F₂ (by
          intro p hp
          simp only [List.mem_cons, List.not_mem_nil, or_false] at hp
          rcases hp with rfl | rfl | rfl | rfl
          · rfl
          · exact (if_neg (show ¬ Str.ofString "size" = Str.ofString "document" by decide)).trans ((hmm _ (show Str.ofString "size" ∉ [Str.ofString "document", "shift"] by decide)).trans mz)
          · exact (if_neg (show ¬ Str.ofString "step" = Str.ofString "document" by decide)).trans ((hmm _ (show Str.ofString "step" ∉ [Str.ofString "document", "shift"] by decide)).trans mt)
          · exact (if_neg (show ¬ Str.ofString "posts" = Str.ofString "document" by decide)).trans ((hmm _ (show Str.ofString "posts" ∉ [Str.ofString "document", "shift"] by decide)).trans mp)) (fun y hy hyn => by
            have h1 := hyn _ (.head _)
            refine (if_neg h1).trans (hmm y ?_)
            intro hm
            rcases List.mem_cons.mp hm with hm | hm
            · exact h1 hm
            · exact hy hm)
        have P₂ := P₁.mono (l' := put itd (rngIt ((i : Int) + 1) ((xs.length : Int) - i - 1) 1) nw₁) (fun p hp hc => mem_put_of hp (hne1 p hp hc)) P₁.cls
        have hitd : (itd, rngIt ((i : Int) + 1) ((xs.length : Int) - i - 1) 1) ∈ put itd (rngIt ((i : Int) + 1) ((xs.length : Int) - i - 1) 1) nw₁ := mem_put
        generalize put itd (rngIt ((i : Int) + 1) ((xs.length : Int) - i - 1) 1) nw₁ = led at N₂ P₂ hitd
        have hN₁ := Stop.out N₁
        have hP := Stop.out P
        clear N₁ F₁ N1 F1 FA NA hm₁ P P₁ q3 q4 hne1
        dsimp only [over, mask] at F₂
        k_steps
        refine Stop.out ?_
        refine wpAny_For ?_
        k_steps
        refine Stop.out ?_
        have kb := kz.b
        refine range3_rows F₂ N₂ (by lia) ?_ (.inl (PyProof.noPylong_small (by lia)))
        intro hB tkB u1 u2 u3 hR FB NB _
        refine range_iter (g := g₁) FB NB hR hk4 ?_
        intro hB1 its FC NC hal2
        rw [hk5] at NC
        have hns : its ≠ itd := Nat.ne_of_gt (allLt_all hal2 _ hitd)
        refine For_S (α := Unit) (env := envL L fa cd) (fun _ => []) (fun y => y ∈ [Str.ofString "shift"]) (InnJ w nw0 dp (termL z st xs) xs.length (kN z st) st i itd its) () (kN z st + 1) ⟨.refl, tB, tD⟩ FC NC (fun _ hp => nomatch hp) ?hJ2 ?turn2 (by passes_own)
        case hJ2 => exact y3_1 0 o₁ ps₁ (ya5 rfl (Nat.zero_le _) (by rw [Nat.zero_mul, Int.natCast_zero, Int.sub_zero]; exact .head _) (.tail _ hitd) (P₂.mono (fun p hp _ => .tail _ hp) P₂.cls))
        case turn2 =>
          intro KW2 hKW2
          (intro n; rintro ⟨⟩; intro g₂ m₂ nw₂ h₃ tk₃; refine TurnS.el ?_; intro tT2 tB2 tD2; intro F₃ N₃ hn₂ hm₂; refine x3_1 ?_; intro k o₂ ps₂; refine x0_5 ?_; intro zz9; subst zz9; intro hkl hit2 hit3 P₃)
          have hmm2 : ∀ y, y ∉ [Str.ofString "document", "shift"] → m₂ y = m y := fun y hy => by
            simp only [List.mem_cons, List.not_mem_nil, or_false, not_or] at hy
            refine (hm₂ y (by simpa using hy.2) (fun _ hp => nomatch hp)).trans ?_
            show (if y = _ then _ else if y = Str.ofString "size" then _ else if y = Str.ofString "step" then _ else if y = Str.ofString "posts" then _ else if y = _ then _ else m y) = m y
            rw [if_neg hy.1, if_neg hy.2]
            by_cases e1 : y = Str.ofString "size"
            · rw [if_pos e1, e1, mz]
            · by_cases e2 : y = Str.ofString "step"
              · rw [if_neg e1, if_pos e2, e2, mt]
              · by_cases e3 : y = Str.ofString "posts"
                · rw [if_neg e1, if_neg e2, if_pos e3, e3, mp]
                · rw [if_neg e1, if_neg e2, if_neg e3]
          have hdoc : m₂ (Str.ofString "document") = some (.int (i : Nat) td) := (hm₂ _ (show Str.ofString "document" ∉ [Str.ofString "shift"] by decide) (fun _ hp => nomatch hp)).trans rfl
          have XX2 := (stop_of XB).keeps tB2.stays
          (refine feed (stop_of TB) ?_; refine x4_1 ?_; intro lo2 mean2 mg2 mb2 TB2)
          have TT2 := TB2.keeps tB2.stays
          clear TB2
          have hne2 : ∀ p ∈ nw₂, (p ∈ nw0 ∨ p.2.cls = .type "dict" ∨ p.2.cls = .type "list") → p.1 ≠ its := fun p hp hc e => by
            have e' : p.2 = _ := same_at N₃ (show (its, p.2) ∈ nw₂ by rw [← e]; exact hp) hit2
            rcases hc with hc | hc | hc
            · exact allLt_ne hal2 _ ((P₂.old _ hc).1) e
            · rw [e'] at hc; simp at hc
            · rw [e'] at hc; simp at hc
          refine range_next (env := envL L fa cd) hh rfl rfl F₃ N₃ hit2 ?_ ?_
          · intro hlt2 h₄ tk₄ tsh F₄ N₄
            have hk : k < kN z st + 1 := by lia
            have hksz : k * st ≤ 64 := by
              have : k * st ≤ kN z st * st := Nat.mul_le_mul_right _ (by lia)
              lia
            have hksz' : ((k * st : Nat) : Int) ≤ 64 := by lia
            replace F₄ := frame_of (nms := [(Str.ofString "shift", .int ((k * st : Nat) : Int) tsh), (Str.ofString "document", .int (i : Nat) td), (Str.ofString "size", .int (z : Nat) t1), (Str.ofString "posts", .ref dp)]) (ls := []) (m₀ := m) F₄ (by
              intro p hp
              simp only [List.mem_cons, List.not_mem_nil, or_false] at hp
              rcases hp with rfl | rfl | rfl | rfl
              · rfl
              · exact (if_neg (show ¬ Str.ofString "document" = Str.ofString "shift" by decide)).trans hdoc
              · exact (if_neg (show ¬ Str.ofString "size" = Str.ofString "shift" by decide)).trans ((hmm2 _ (show Str.ofString "size" ∉ [Str.ofString "document", "shift"] by decide)).trans mz)
              · exact (if_neg (show ¬ Str.ofString "posts" = Str.ofString "shift" by decide)).trans ((hmm2 _ (show Str.ofString "posts" ∉ [Str.ofString "document", "shift"] by decide)).trans mp)) (fun y _ hyn => by
              have h1 := hyn _ (.head _)
              have h2 := hyn _ (.tail _ (.head _))
              refine (if_neg h1).trans (hmm2 y ?_)
              intro hm
              rcases List.mem_cons.mp hm with hm | hm
              · exact h2 hm
              · exact h1 (List.mem_singleton.mp hm))
            dsimp only [over, mask] at F₄
            have P₄ := P₃.mono (l' := put its (rngIt (((k * st : Nat) : Int) + st) (((kN z st + 1 : Nat) : Int) - k - 1) st) nw₂) (fun p hp hc => mem_put_of hp (hne2 p hp hc)) P₃.cls
            have hi2 : (its, rngIt (((k * st : Nat) : Int) + st) (((kN z st + 1 : Nat) : Int) - k - 1) st) ∈ put its (rngIt (((k * st : Nat) : Int) + st) (((kN z st + 1 : Nat) : Int) - k - 1) st) nw₂ := mem_put
            have hi3 : (itd, rngIt ((i : Int) + 1) ((xs.length : Int) - i - 1) 1) ∈ put its (rngIt (((k * st : Nat) : Int) + st) (((kN z st + 1 : Nat) : Int) - k - 1) st) nw₂ := mem_put_of hit3 hns.symm
            generalize put its (rngIt (((k * st : Nat) : Int) + st) (((kN z st + 1 : Nat) : Int) - k - 1) st) nw₂ = led2 at N₄ P₄ hi2 hi3
            have hmem := P₄.mem
            have hdict := P₄.dict
            have hlo := P₄.lo
            have q3 := (P₄.old _ hc3).1
            have q4 := (P₄.old _ hln).1
            clear hne2 P₃ F₃ N₃ hm₂ NB FB NC FC F₂ N₂ hmm2
            k_steps
            refine Stop.out ?_
            (refine feed (stop_of hvals i hi) ?_; refine x1_1 ?_; intro tx hxv)
            refine sub_list_M (by assumption) q4 (by lia) hz1 ?_
            rw [hxv]
            k_steps
            refine Stop.out ?_
            refine wpAny_call ?_
            refine' law_term_spec ?mc (by assumption) (by assumption) hh ?m1 ?m2 hksz' ?_
            case m1 => lia
            case m2 => lia
            case mc =>
              refine' Cx.of ?mcB ?mcX ?mcT ?mcA ?mcD ?mcU ?mcF ?mcK
              case mcB => exact tB2
              case mcX => exact XX2
              case mcT => exact TT2
              case mcA => exact hA
              case mcD => lia
              case mcU => lia
              case mcF => exact rfl
              case mcK => exact rfl
            intro h5 tk5 r5 ty5 F5 N5 hr5 hl5
            dsimp only
            have hr : r5 = ⟨(termL z st xs i k).toArray⟩ := by
              have e1 : (33 + ((k * st : Nat) : Int)).toNat = 33 + k * st := by lia
              rw [hr5, e1, Int.toNat_natCast, Int.toNat_natCast]; rfl
            have hlt5 : ∀ p ∈ led2, p.1 < h5.objs.size := fun p hp => Heap.lt_size (N5 p hp).1
            clear hr5 hl5
            have hS := Stop.out hr
            clear hr
            have hlt6 := Stop.out hlt5
            clear hlt5
            k_steps
            refine Stop.out ?_
            rename Fr g₂ _ _ _ => F6
            rename News g₂ _ _ ((_, _) :: led2) => N6
            replace hS := stop_of hS
            subst hS
            have hlt7 : ∀ p ∈ led2, p.1 < h5.objs.size := stop_of hlt6
            dsimp only at N6 hlt7 ⊢
            generalize h5.objs.size = l2 at N6 hlt7 ⊢
            have hlen : ps₂.length ≤ 63 := by
              have e := P₄.len
              rw [doneP_len] at e
              have : i * (kN z st + 1) ≤ 5 * 4 := Nat.mul_le_mul (by lia) (by lia)
              lia
            have hsz : (ps₂.map pkv).length ≤ sizeLine := by
              rw [List.length_map]; exact Nat.le_trans hlen (by decide)
            have h2' := hi2
            have h3' := hi3
            refine setdefault_M (knd := PySem.strKind prog w) F6 N6 (.tail _ hmem) hdict hlo (strKind_is _ _ _ _) hsz (fun v hv => ?_) (fun hn h' o' F' N' hd' => ?_)
            · rcases posts_find ps₂ (termL z st xs i k) with ⟨h1, h2⟩ | ⟨a, h1, h2⟩
              · rw [h1] at hv; cases hv
              rw [h1] at hv
              cases hv
              (refine feed (P₄.docs _ h2) ?_; refine x2_1 ?_; intro vs c; refine x0_2 ?_; intro d1 d2)
              have hsv : (List.toArray vs).size ≤ sizeLine := by
                rw [List.size_toArray, d2.length, List.length_map]
                refine Nat.le_trans (Nat.le_trans (List.length_filter_le _ _) (Nat.le_of_eq (doneP_len _ _ _))) ?_
                have : i * (kN z st + 1) ≤ 5 * 4 := Nat.mul_le_mul (by lia) (by lia)
                exact Nat.le_trans (show i * (kN z st + 1) + k ≤ 63 by lia) (by decide)
              have P₅ := (P₄.mono (l' := (l2, listOf #[] 0) :: led2) (fun p hp _ => .tail _ hp) P₄.cls).there (k := k) (tt := td) N6 h2 rfl (.tail _ d1) d2
              have n1 : its ≠ a := ne_of_cls N6 (.tail _ hi2) (.tail _ d1) (by simp)
              have n2 : itd ≠ a := ne_of_cls N6 (.tail _ hi3) (.tail _ d1) (by simp)
              have d2' := Stop.out d2
              have P5 := Stop.out P₅
              clear d2 P₅ hn₂
              k_steps
              rename Fr g₂ _ _ _ => F9
              rename News g₂ _ _ (put a _ _) => N9
              refine hKW2 _ _ _ ?_
              exact inn_fin ⟨tT2, tB2, tD2⟩ F9 N9 (fun y hy => by
                simp only [List.mem_cons, List.not_mem_nil, or_false] at hy
                show (if y = Str.ofString "shift" then _ else if y = Str.ofString "document" then _ else if y = Str.ofString "size" then _ else if y = Str.ofString "posts" then _ else m y) = if y = Str.ofString "document" then _ else if y = Str.ofString "size" then _ else if y = Str.ofString "step" then _ else if y = Str.ofString "posts" then _ else if y = Str.ofString "shift" then _ else m y
                rw [if_neg hy, if_neg hy]
                by_cases e : y = Str.ofString "step"
                · rw [e, if_neg (show ¬ Str.ofString "step" = Str.ofString "document" by decide), if_neg (show ¬ Str.ofString "step" = Str.ofString "size" by decide), if_neg (show ¬ Str.ofString "step" = Str.ofString "posts" by decide), if_neg (show ¬ Str.ofString "step" = Str.ofString "document" by decide), if_neg (show ¬ Str.ofString "step" = Str.ofString "size" by decide), if_pos rfl]
                  exact mt
                · rw [if_neg e]) hk (mem_put_of (.tail _ h2') n1) (mem_put_of (.tail _ h3') n2) (stop_of P5)
            · rcases posts_find ps₂ (termL z st xs i k) with ⟨h1, h2⟩ | ⟨a, h1, h2⟩
              rotate_left
              · rw [h1] at hn; cases hn
              have N5' := (fun p hp => N6 p (.tail _ hp) : News g₂ L _ led2)
              have P₅ := PostsAt.new (d := i) (k := k) (tt := td) N5' P₄ h2 rfl hd' hlt7 h1
              have hne : l2 ≠ dp := Nat.ne_of_gt (hlt7 _ hmem)
              have hs0 : (#[] : Array Value).size ≤ sizeLine := Nat.zero_le _
              have n1 : its ≠ l2 := Nat.ne_of_lt (hlt7 _ hi2)
              have n2 : itd ≠ l2 := Nat.ne_of_lt (hlt7 _ hi3)
              have n3 : its ≠ dp := ne_of_cls N5' hi2 hmem (by rw [P₄.cls]; simp)
              have n4 : itd ≠ dp := ne_of_cls N5' hi3 hmem (by rw [P₄.cls]; simp)
              have P5 := Stop.out P₅
              have hd5 := Stop.out hd'
              clear P₅ hn₂ hd' N5'
              k_steps
              rename Fr g₂ _ _ _ => F9
              rename News g₂ _ _ (put l2 _ _) => N9
              refine hKW2 _ _ _ ?_
              exact inn_fin ⟨tT2, tB2, tD2⟩ F9 N9 (fun y hy => by
                simp only [List.mem_cons, List.not_mem_nil, or_false] at hy
                show (if y = Str.ofString "shift" then _ else if y = Str.ofString "document" then _ else if y = Str.ofString "size" then _ else if y = Str.ofString "posts" then _ else m y) = if y = Str.ofString "document" then _ else if y = Str.ofString "size" then _ else if y = Str.ofString "step" then _ else if y = Str.ofString "posts" then _ else if y = Str.ofString "shift" then _ else m y
                rw [if_neg hy, if_neg hy]
                by_cases e : y = Str.ofString "step"
                · rw [e, if_neg (show ¬ Str.ofString "step" = Str.ofString "document" by decide), if_neg (show ¬ Str.ofString "step" = Str.ofString "size" by decide), if_neg (show ¬ Str.ofString "step" = Str.ofString "posts" by decide), if_neg (show ¬ Str.ofString "step" = Str.ofString "document" by decide), if_neg (show ¬ Str.ofString "step" = Str.ofString "size" by decide), if_pos rfl]
                  exact mt
                · rw [if_neg e]) hk (mem_put_of (mem_put_of (.tail _ h2') n3) n1) (mem_put_of (mem_put_of (.tail _ h3') n4) n2) (stop_of P5)
          · intro hle2 h₄ F₄ N₄
            have hk : k = kN z st + 1 := by lia
            refine wpAny_execs_nil ?_
            show wpAny _ _ (execs [] _) _ _ _
            refine wpAny_execs_nil ?_
            refine hKW _ _ _ ?_
            refine WPost.intro () (xs.length - (i + 1)) (TurnS.trans ⟨tT, tB, tD⟩ ⟨tT2, tB2, tD2⟩) F₄ N₄ (fun _ hp => nomatch hp) (fun y hy _ => hmm2 y hy) (by lia) ⟨i + 1, o₂, ps₂, rfl, hi, ?_, ?_⟩
            · rw [show ((i + 1 : Nat) : Int) = (i : Int) + 1 from rfl, show (xs.length : Int) - ((i : Int) + 1) = (xs.length : Int) - i - 1 by lia]
              exact mem_del_of hit3 hns.symm
            · rw [doneP_next, ← hk]
              exact P₃.mono (fun p hp hc => mem_del_of hp (hne2 p hp hc)) P₃.cls
      · intro hle h₂ F₂ N₂
        have hi : i = xs.length := by lia
        subst hi
        refine wpAny_execs_nil ?_
        exact h g₁ _ _ m₁ (del itd nw₁) o₁ ps₁ ⟨tT, tB, tD⟩ F₂ N₂ (P₁.mono (fun p hp hc => mem_del_of hp (hne1 p hp hc)) P₁.cls) hmm)
end
end
end Law2
section Law3
noncomputable def ls11s : {x : Stmt // x = lsAt 11} := ⟨_, by conv => rhs; whnf⟩
noncomputable def ls12s : {x : Stmt // x = lsAt 12} := ⟨_, by conv => rhs; whnf⟩
theorem lists_of : ∀ {vs : List Value} {ss : List Str}, StrsAre vs ss → vs.length = (ss.map fun x => x.cps.toList).length ∧ ∀ (i : Nat) (v : Value), vs[i]? = some v → ∃ (x : Str) (t : Tok), v = Value.str x t ∧ (ss.map fun x => x.cps.toList)[i]? = some x.cps.toList := by
  intro vs ss h
  induction h with
  | nil => exact ⟨rfl, fun i v h => by simp at h⟩
  | cons x t h ih =>
    refine ⟨by simp [ih.1], fun i v hv => ?_⟩
    cases i with
    | zero => exact y2_1 x t (ya2 ((Option.some.inj hv).symm) rfl)
    | succ i => exact ih.2 i v hv
theorem keys_lists (ps : List (List Nat × Addr)) {ss : List Str} (hp : ss.Perm ((ps.map pkv).map (·.1))) : (ss.map fun x => x.cps.toList).Perm (ps.map (·.1)) := by
  have := hp.map fun x => x.cps.toList
  rw [List.map_map, List.map_map] at this
  refine this.trans (List.Perm.of_eq ?_)
  refine List.map_congr_left fun p _ => ?_
  simp [pkv]
theorem strict_of {l : List (List Nat)} (h : l.Pairwise fun a b => ¬ b < a) (hn : l.Nodup) : l.Pairwise (· < ·) := by
  induction l with
  | nil => exact .nil
  | cons x l ih =>
    (refine feed (List.pairwise_cons.mp h) ?_; refine x0_2 ?_; intro h1 h2)
    (refine feed (List.nodup_cons.mp hn) ?_; refine x0_2 ?_; intro n1 n2)
    refine List.pairwise_cons.mpr ⟨fun y hy => ?_, ih h2 n2⟩
    rcases Decidable.em (x < y) with c | c
    · exact c
    · exact absurd (List.le_antisymm (List.not_lt.mp (h1 y hy)) (List.not_lt.mp c)) fun e => n1 (by rw [e]; exact hy)
section
variable {w : World} {A A₀ : Around} {base : Heap} {outer : List Env} {s : Shared} {h₀ : Heap} {L fa : Addr} {cd : Value} {m : Str → Option Value} {nw : Led} {E : Value → Shared → Prop} {Q : Flow → Shared → Prop}
section
local macro_rules | `(tactic| walk_at $s:str) => do
  let k := Lean.Syntax.mkStrLit ("L9:" ++ s.getString)
  `(tactic| k_extra $k)
theorem law_s11 (C : LawC w A A₀ base outer h₀ L fa cd) (F : Fr h₀ L s.heap m) (N : News h₀ L s.heap nw) {nw0 : Led} {dp : Addr} {T : Nat → Nat → List Nat} {done : List (Nat × Nat)} {o : Obj} {ps : List (List Nat × Addr)} {NN : Nat} (P : PostsAt w nw0 dp T done nw o ps)
    (mp : m (Str.ofString "posts") = some (.ref dp)) (hT : ∀ d k, (T d k).length = NN ∧ ((d, k) ∈ done → ∀ c ∈ T d k, c < 128)) (hN0 : 0 < NN) (hN1 : NN ≤ 11) (hl : done.length ≤ 40)
    (h : ∀ h₀' h' tk' m' nw' (G : Ads) (b : Bld) av, TurnS A₀ base outer h₀ h₀' → Fr h₀' L h' m' → News h₀' L h' nw' → (∀ p ∈ nw, p ∈ nw' ∧ p.1 ∉ G.fix ∧ p.1 ∈ av) → DfaDone w nw' G b 40 av → (∀ z ∈ av, ∃ o, (z, o) ∈ nw') → (∀ x, b.aut.Acc 0 x ↔ x ∈ ps.map (·.1)) → (∃ ts : List (List Nat), ts.Pairwise (· < ·) ∧ ∀ x, x ∈ ts ↔ x ∈ ps.map (·.1)) → SetTo m m' (Str.ofString "book") (.ref G.x) → Q .next ⟨h', s.gens, s.drawn, tk', s.os⟩) :
    wpAny (model prog w) A (exec ls11s.1 (envL L fa cd)) Q E s := by
  have hCx := C.cx (d := 6) (by decide)
  obtain ⟨B, X, ⟨lo, mean, mg, mb, Tp⟩, hA, hh, hd, hu, -, -, -⟩ := C
  have hnm : ∀ p ∈ [(Str.ofString "posts", Value.ref dp)], m p.1 = some p.2 := by
    intro p hp
    simp only [List.mem_cons, List.not_mem_nil, or_false] at hp
    subst hp; exact mp
  replace F := fr_congr F (over_self hnm)
  dsimp only [over] at F
  dsimp only [ls11s, envL]
  have hCS := Stop.out hCx
  clear hCx
  k_with "L9:call builtin:sorted" => (k_here; refine stop_of ?_)
  k_with "L9:call ref" => (k_here; (with_reducible show wpAny _ _ (call (Value.ref 422) _) _ _ _); refine stop_of ?_)
  refine fillIt ?_
  k_fill
  intro _
  w_strict (
    k_steps
    refine Stop.out ?_
    have hle : ps.length ≤ 40 := Nat.le_trans P.len hl
    refine sorted_keys_M hh F N P.mem P.dict P.lo (by rw [List.length_map]; lia) fun B' c h' tk vs ss F' N' hal hS hPm hPw => ?_
    have hk := keys_lists ps hPm
    have hst : (ss.map fun x => x.cps.toList).Pairwise (· < ·) := strict_of (List.pairwise_map.mpr hPw) (hk.nodup_iff.mpr P.knodup)
    (refine feed (lists_of hS) ?_; refine x0_2 ?_; intro hv1 hv2)
    k_steps
    refine Stop.out ?_
    refine wpAny_call ?_
    refine sdfa_spec (ts := ss.map fun x => x.cps.toList) (NN := NN) (stop_of hCS) (by assumption) (by assumption) hh (.head _) hv1 hv2 hst (fun t ht => ?_) hN0 hN1 (by rw [hk.length_eq, List.length_map]; exact hle) ?_
    · (refine feed ((P.keys t).1 (hk.mem_iff.mp ht)) ?_; refine x1_1 ?_; intro q; refine x0_2 ?_; intro hq; intro zz9; subst zz9)
      exact ⟨(hT q.1 q.2).1, (hT q.1 q.2).2 hq⟩
    intro h₁ h₂ tk₂ G nw₂ b t₂ F₂ N₂ hk₂ hD hacc
    dsimp only
    clear F N F' N'
    k_steps
    rename Fr h₁ L _ _ => F9
    rename News h₁ L _ _ => N9
    exact h _ _ _ _ nw₂ G b _ t₂ F9 N9 (fun p hp => ⟨(hk₂ p (.tail _ hp)).1, (hk₂ p (.tail _ hp)).2, List.mem_map_of_mem (List.Mem.tail _ hp)⟩) hD (fun z hz => by
      (refine feed (List.mem_map.mp hz) ?_; refine x1_1 ?_; intro p; refine x0_2 ?_; intro hp; intro zz9; subst zz9)
      exact y1_1 _ ((hk₂ p hp).1)) (fun x => (hacc x).trans (hk.mem_iff)) ⟨_, hst, fun x => hk.mem_iff⟩ (SetTo.of hnm))
end
theorem law_s12 (C : LawC w A A₀ base outer h₀ L fa cd) (F : Fr h₀ L s.heap m) (N : News h₀ L s.heap nw)
    (h : ∀ h' tk' m' l, Fr h₀ L h' m' → News h₀ L h' ((l, listOf #[] 0) :: nw) → (∀ p ∈ nw, p.1 < l) → SetTo m m' (Str.ofString "found") (.ref l) → Q .next ⟨h', s.gens, s.drawn, tk', s.os⟩) :
    wpAny (model prog w) A (exec ls12s.1 (envL L fa cd)) Q E s := by
  obtain ⟨B, X, ⟨lo, mean, mg, mb, T⟩, hA, hh, hd, hu, -, -, -⟩ := C
  dsimp only [ls12s, envL]
  k_steps
  rename Fr h₀ L _ _ => F9
  rename News h₀ L _ _ => N9
  exact h _ _ _ _ F9 N9 (by with_reducible assumption) (SetTo.of (l := []) (fun _ h => nomatch h))
end
end Law3
section Law4
noncomputable def lrb : List Stmt := match lsAt 13 with
  | .For _ _ b _ _ => b
  | _ => []
noncomputable def lwb : List Stmt := match (lrb[2]? : Option Stmt) with
  | some (Stmt.While _ b _ _) => b
  | _ => []
noncomputable def lr0s : {x : Stmt // x = (lrb[0]?).getD (.Pass default)} := ⟨_, by conv => rhs; whnf⟩
noncomputable def lr1s : {x : Stmt // x = (lrb[1]?).getD (.Pass default)} := ⟨_, by conv => rhs; whnf⟩
noncomputable def lwts : {x : PySem.Expr // x = (match (lrb[2]? : Option Stmt) with | some (Stmt.While t _ _ _) => t | _ => default)} := ⟨_, by conv => rhs; whnf⟩
noncomputable def lw0s : {x : Stmt // x = (lwb[0]?).getD (.Pass default)} := ⟨_, by conv => rhs; whnf⟩
noncomputable def lw1s : {x : Stmt // x = (lwb[1]?).getD (.Pass default)} := ⟨_, by conv => rhs; whnf⟩
noncomputable def lw2s : {x : Stmt // x = (lwb[2]?).getD (.Pass default)} := ⟨_, by conv => rhs; whnf⟩
theorem lrb_eq : ∃ p, lrb = [lr0s.1, lr1s.1, .While lwts.1 [lw0s.1, lw1s.1, lw2s.1] [] p] := ⟨_, rfl⟩
noncomputable def txtC (sz sh x : Int) : List Nat := (33 + sh).toNat :: digs (if sz = 64 then 10 else 5) (x.toNat / 2 ^ sh.toNat) []
/-- the search, as the law's frame sees it -/
structure BookAt (w : World) (l : Led) (G : Ads) (b : Bld) (av : List Addr) : Prop where
  S : SrAt w l G b av
  hav : ∀ z ∈ av, ∃ o, (z, o) ∈ l
  good : b.aut.Good
  hsm : ∀ q, (b.T q).length ≤ 40
  htg : b.Tg 900
section
variable {w : World} {A A₀ : Around} {base : Heap} {outer : List Env} {s : Shared} {h₀ : Heap} {L fa : Addr} {cd : Value} {m : Str → Option Value} {nw : Led} {E : Value → Shared → Prop} {Q : Flow → Shared → Prop} {sz sh x : Int} {t1 t2 t3 t4 : Tok}
section
local macro_rules | `(tactic| walk_at $s:str) => do
  let k := Lean.Syntax.mkStrLit ("L10:" ++ s.getString)
  `(tactic| k_extra $k)
local macro_rules | `(tactic| walk_at "zz") => `(tactic| skip)
theorem law_r0 (C : LawC w A A₀ base outer h₀ L fa cd) (F : Fr h₀ L s.heap m) (N : News h₀ L s.heap nw) (mz : m (Str.ofString "size") = some (.int sz t1)) (mh : m (Str.ofString "shift") = some (.int sh t2)) (ml : m (Str.ofString "last") = some (.int x t3)) (hx : 0 ≤ x) (hs : 0 ≤ sh) (hs2 : sh ≤ 64)
    (h : ∀ h' tk' m' t, Fr h₀ L h' m' → News h₀ L h' nw → SetTo m m' (Str.ofString "behind") (.str ⟨(txtC sz sh x).toArray⟩ t) → Q .next ⟨h', s.gens, s.drawn, tk', s.os⟩) :
    wpAny (model prog w) A (exec lr0s.1 (envL L fa cd)) Q E s := by
  obtain ⟨B, X, ⟨lo, mean, mg, mb, T⟩, hA, hh, hd, hu, -, -, -⟩ := C
  have hnm : ∀ p ∈ [(Str.ofString "size", Value.int sz t1), (Str.ofString "shift", Value.int sh t2), (Str.ofString "last", Value.int x t3)], m p.1 = some p.2 := by
    intro p hp
    simp only [List.mem_cons, List.not_mem_nil, or_false] at hp
    rcases hp with rfl | rfl | rfl
    · exact mz
    · exact mh
    · exact ml
  replace F := fr_congr F (over_self hnm)
  dsimp only [over] at F
  dsimp only [lr0s, envL]
  have hCx : Cx w A h₀ L 1 := Cx.of B X T hA (by lia) (by lia) rfl rfl
  k_with "L10:call ref" => (k_here; (with_reducible show wpAny _ _ (call (Value.ref 451) _) _ _ _); refine stop_of ?_)
  refine fillIt ?_
  k_fill
  intro _
  w_strict (
    k_steps
    refine Stop.out ?_
    refine wpAny_call ?_
    refine law_term_spec hCx (by assumption) (by assumption) hh hx hs hs2 ?_
    intro h5 tk5 r5 ty5 F5 N5 hr5 hl5
    dsimp only
    subst hr5
    k_steps
    rename Fr h₀ L _ _ => F9
    rename News h₀ L _ _ => N9
    exact h _ _ _ _ F9 N9 (SetTo.of hnm))
end
section
local macro_rules | `(tactic| walk_at $s:str) => do
  let k := Lean.Syntax.mkStrLit ("L11:" ++ s.getString)
  `(tactic| k_extra $k)
theorem law_r1 (C : LawC w A A₀ base outer h₀ L fa cd) (F : Fr h₀ L s.heap m) (N : News h₀ L s.heap nw) {G : Ads} {b : Bld} {av : List Addr} (Bk : BookAt w nw G b av) (mz : m (Str.ofString "size") = some (.int sz t1)) (mh : m (Str.ofString "shift") = some (.int sh t2)) (ml : m (Str.ofString "first") = some (.int x t3)) (mb : m (Str.ofString "book") = some (.ref G.x)) (hx : 0 ≤ x) (hs : 0 ≤ sh) (hs2 : sh ≤ 64)
    {ans : Option (List Nat)} (hans : SearchIs b (txtC sz sh x) ans) (hal : ∀ x, ans = some x → x.length ≤ 20)
    (h : ∀ h₀' h' tk' m' v nw', TurnS A₀ base outer h₀ h₀' → Fr h₀' L h' m' → News h₀' L h' nw' → (∀ p ∈ nw, p.1 ≠ G.ol → p ∈ nw') → BookAt w nw' G b av → (v = .none ∧ ans = none) ∨ (∃ x t, v = .str x t ∧ ans = some x.cps.toList) → SetTo m m' (Str.ofString "term") v → Q .next ⟨h', s.gens, s.drawn, tk', s.os⟩) :
    wpAny (model prog w) A (exec lr1s.1 (envL L fa cd)) Q E s := by
  have hCx3 := Stop.out (C.cx (d := 3) (by decide))
  obtain ⟨B, X, ⟨lo, mean, mg, mb, T⟩, hA, hh, hd, hu, -, -, -⟩ := C
  have hnm : ∀ p ∈ [(Str.ofString "size", Value.int sz t1), (Str.ofString "shift", Value.int sh t2), (Str.ofString "first", Value.int x t3), (Str.ofString "book", Value.ref G.x)], m p.1 = some p.2 := by
    intro p hp
    simp only [List.mem_cons, List.not_mem_nil, or_false] at hp
    rcases hp with rfl | rfl | rfl | rfl
    · exact mz
    · exact mh
    · exact ml
    · assumption
  replace F := fr_congr F (over_self hnm)
  dsimp only [over] at F
  dsimp only [lr1s, envL]
  have hCx : Cx w A h₀ L 1 := Cx.of B X T hA (by lia) (by lia) rfl rfl
  (refine feed (Bk.S.dfa) ?_; refine x0_2 ?_; intro d1; refine x11_1 ?_; intro g1 g2 g3 g4 g5 u1 u2 u3 u4 u5 un d2)
  k_with "L11:call ref" => (k_here; (with_reducible show wpAny _ _ (call (Value.ref 451) _) _ _ _); refine stop_of ?_)
  k_with "L11:call ref" => (k_here; (with_reducible show wpAny _ _ (call (Value.ref 279) _) _ _ _); refine stop_of ?_)
  refine fillIt ?_
  k_fill
  intro _
  w_strict (
    k_steps
    refine Stop.out ?_
    refine wpAny_call ?_
    refine law_term_spec hCx (by assumption) (by assumption) hh hx hs hs2 ?_
    intro h5 tk5 r5 ty5 F5 N5 hr5 hl5
    dsimp only
    have hr6 := Stop.out hr5
    clear hr5
    k_steps
    refine Stop.out ?_
    refine wpAny_call ?_
    replace hr6 := stop_of hr6
    subst hr6
    refine nvs_spec (str := ⟨(txtC sz sh x).toArray⟩) (stop_of hCx3) (by assumption) (by assumption) hh Bk.S Bk.hav Bk.good Bk.hsm Bk.htg ?_ ?_ ?_ hans hal ?_
    · exact Nat.succ_pos _
    · show List.length (_ :: _) ≤ 20
      rw [List.length_cons, digs_length]; split <;> decide
    · intro c hc
      have hc' : c ∈ (33 + sh).toNat :: digs (if sz = 64 then 10 else 5) (x.toNat / 2 ^ sh.toNat) [] := hc
      rcases List.mem_cons.mp hc' with rfl | hc'
      · lia
      · exact Nat.lt_trans (digs_range _ _ _ hc').2 (by decide)
    intro h₀' h₁ tk₁ v nw₁ t₁ F₁ N₁ hk₁ S₁ hv₁
    dsimp only
    clear F N
    k_steps
    rename Fr h₀' L _ _ => F9
    rename News h₀' L _ _ => N9
    refine h _ _ _ _ v nw₁ t₁ F9 N9 hk₁ ⟨S₁, fun z hz => ?_, Bk.good, Bk.hsm, Bk.htg⟩ hv₁ (SetTo.of hnm)
    (refine feed (Bk.hav z hz) ?_; refine x1_1 ?_; intro o ho)
    by_cases e : z = G.ol
    · (refine feed (S₁.ol) ?_; refine x2_1 ?_; intro oo _; refine x0_2 ?_; intro c1 _)
      exact y1_1 oo (by rw [e]; exact c1)
    · exact y1_1 o (hk₁ _ ho e))
end
section
local macro_rules | `(tactic| walk_at $s:str) => do
  let k := Lean.Syntax.mkStrLit ("L12:" ++ s.getString)
  `(tactic| k_extra $k)
local macro_rules | `(tactic| walk_at "zz") => `(tactic| skip)
theorem law_w0 (C : LawC w A A₀ base outer h₀ L fa cd) (F : Fr h₀ L s.heap m) (N : News h₀ L s.heap nw) {dp : Addr} {o : Obj} {kvs : List (Str × Value)} {x : Str} {t : Tok} {v : Value} (hm : (dp, o) ∈ nw) (hdc : o.IsDictOf (PySem.strKind prog w) kvs) (hlo : (dp == sysModules) = false) (hv : valueAt kvs x = some v)
    (mt : m (Str.ofString "term") = some (.str x t)) (mp : m (Str.ofString "posts") = some (.ref dp)) (h : ∀ h' tk', Fr h₀ L h' m → News h₀ L h' nw → Q .next ⟨h', s.gens, s.drawn, tk', s.os⟩) :
    wpAny (model prog w) A (exec lw0s.1 (envL L fa cd)) Q E s := by
  obtain ⟨B, X, ⟨lo, mean, mg, mb, T⟩, hA, hh, hd, hu, -, -, -⟩ := C
  have hnm : ∀ p ∈ [(Str.ofString "term", Value.str x t), (Str.ofString "posts", Value.ref dp)], m p.1 = some p.2 := by
    intro p hp
    simp only [List.mem_cons, List.not_mem_nil, or_false] at hp
    rcases hp with rfl | rfl
    · exact mt
    · exact mp
  replace F := fr_congr F (over_self hnm)
  dsimp only [over] at F
  dsimp only [lw0s, envL]
  k_with "L12:compareOp NotIn str ref" => (k_here; refine stop_of ?_)
  k_steps
  refine Stop.out ?_
  refine notin_M (knd := PySem.strKind prog w) N hm hdc hlo (strKind_is _ _ _ _) ?_
  rw [hv]
  show wpAny _ _ (truthy (.bool false)) _ _ _
  k_steps
  rename Fr h₀ L _ _ => F9
  rename News h₀ L _ _ => N9
  exact h _ _ (fr_congr F9 fun y => (over_self hnm y).symm) N9
end
section
local macro_rules | `(tactic| walk_at $s:str) => do
  let k := Lean.Syntax.mkStrLit ("L13:" ++ s.getString)
  `(tactic| k_extra $k)
theorem law_w1 (C : LawC w A A₀ base outer h₀ L fa cd) (F : Fr h₀ L s.heap m) (N : News h₀ L s.heap nw) {dp : Addr} {o : Obj} {kvs : List (Str × Value)} {x : Str} {t : Tok} {a fl : Addr} {vs fvs : List Value} {ds fs : List Int} {c c' : Nat} (hm : (dp, o) ∈ nw) (hdc : o.IsDictOf (PySem.strKind prog w) kvs) (hlo : (dp == sysModules) = false) (hv : valueAt kvs x = some (.ref a))
    (ha : (a, listOf (List.toArray vs) c) ∈ nw) (hI : IntsAre vs ds) (hfl : (fl, listOf (List.toArray fvs) c') ∈ nw) (hf : IntsAre fvs fs) (hz : fs.length + ds.length ≤ 2000)
    (mt : m (Str.ofString "term") = some (.str x t)) (mp : m (Str.ofString "posts") = some (.ref dp)) (mf : m (Str.ofString "found") = some (.ref fl))
    (h : ∀ h' tk' m' l vs', Fr h₀ L h' m' → News h₀ L h' ((l, listOf (List.toArray vs') 0) :: nw) → IntsAre vs' (fs ++ ds) → SetTo m m' (Str.ofString "found") (.ref l) → Q .next ⟨h', s.gens, s.drawn, tk', s.os⟩) :
    wpAny (model prog w) A (exec lw1s.1 (envL L fa cd)) Q E s := by
  obtain ⟨B, X, ⟨lo, mean, mg, mb, T⟩, hA, hh, hd, hu, -, -, -⟩ := C
  have hnm : ∀ p ∈ [(Str.ofString "term", Value.str x t), (Str.ofString "posts", Value.ref dp), (Str.ofString "found", Value.ref fl)], m p.1 = some p.2 := by
    intro p hp
    simp only [List.mem_cons, List.not_mem_nil, or_false] at hp
    rcases hp with rfl | rfl | rfl
    · exact mt
    · exact mp
    · exact mf
  replace F := fr_congr F (over_self hnm)
  dsimp only [over] at F
  dsimp only [lw1s, envL]
  k_with "L13:subscriptTail" => (k_here; refine stop_of ?_)
  k_with "L13:binaryOp Add ref ref" => (k_here; refine stop_of ?_)
  k_steps
  refine Stop.out ?_
  refine item_M (knd := PySem.strKind prog w) N hm hdc (strKind_is _ _ _ _) hv ?_
  refine PyProof.Rows.add_lists_ints (s := { s with toks := s.toks + 1 }) F N (News.isList N hfl) (News.isList N ha) hf hI ?_ (Nat.le_trans hz (by decide))
  intro h₁ F₁ N₁ hI₁
  dsimp only
  have hI2 := Stop.out hI₁
  clear hI₁ F N
  k_steps
  rename Fr h₀ L _ _ => F9
  rename News h₀ L _ _ => N9
  exact h _ _ _ _ _ F9 N9 (stop_of hI2) (SetTo.of hnm)
end
section
local macro_rules | `(tactic| walk_at $s:str) => do
  let k := Lean.Syntax.mkStrLit ("L14:" ++ s.getString)
  `(tactic| k_extra $k)
local macro_rules | `(tactic| walk_at "zz") => `(tactic| skip)
theorem law_w2 (C : LawC w A A₀ base outer h₀ L fa cd) (F : Fr h₀ L s.heap m) (N : News h₀ L s.heap nw) {G : Ads} {b : Bld} {av : List Addr} (Bk : BookAt w nw G b av) {x : Str} {t : Tok} (mt : m (Str.ofString "term") = some (.str x t)) (mk : m (Str.ofString "book") = some (.ref G.x)) (hx1 : x.cps.toList.length ≤ 12) (hx2 : ∀ c ∈ x.cps.toList, c < 128)
    {ans : Option (List Nat)} (hans : SearchIs b (x.cps.toList ++ [0]) ans) (hal : ∀ x, ans = some x → x.length ≤ 20)
    (h : ∀ h₀' h' tk' m' v nw', TurnS A₀ base outer h₀ h₀' → Fr h₀' L h' m' → News h₀' L h' nw' → (∀ p ∈ nw, p.1 ≠ G.ol → p ∈ nw') → BookAt w nw' G b av → (v = .none ∧ ans = none) ∨ (∃ x t, v = .str x t ∧ ans = some x.cps.toList) → SetTo m m' (Str.ofString "term") v → Q .next ⟨h', s.gens, s.drawn, tk', s.os⟩) :
    wpAny (model prog w) A (exec lw2s.1 (envL L fa cd)) Q E s := by
  have hCx3 := Stop.out (C.cx (d := 3) (by decide))
  obtain ⟨B, X, ⟨lo, mean, mg, mb, T⟩, hA, hh, hd, hu, -, -, -⟩ := C
  have hnm : ∀ p ∈ [(Str.ofString "term", Value.str x t), (Str.ofString "book", Value.ref G.x)], m p.1 = some p.2 := by
    intro p hp
    simp only [List.mem_cons, List.not_mem_nil, or_false] at hp
    rcases hp with rfl | rfl
    · exact mt
    · exact mk
  replace F := fr_congr F (over_self hnm)
  dsimp only [over] at F
  dsimp only [lw2s, envL]
  have hxl : x.length ≤ 64 := by
    show x.cps.size ≤ 64
    rw [← Array.length_toList]; lia
  (refine feed (Bk.S.dfa) ?_; refine x0_2 ?_; intro d1; refine x11_1 ?_; intro g1 g2 g3 g4 g5 u1 u2 u3 u4 u5 un d2)
  k_with "L14:call ref" => (k_here; (with_reducible show wpAny _ _ (call (Value.ref 279) _) _ _ _); refine stop_of ?_)
  refine fillIt ?_
  k_fill
  intro _
  w_strict (
    k_steps
    refine Stop.out ?_
    refine wpAny_call ?_
    have hcp : (x ++ (⟨#[Int.toNat 0]⟩ : Str)).cps.toList = x.cps.toList ++ [0] := by
      show (x.cps ++ #[0]).toList = _
      simp
    refine nvs_spec (str := x ++ (⟨#[Int.toNat 0]⟩ : Str)) (stop_of hCx3) (by assumption) (by assumption) hh Bk.S Bk.hav Bk.good Bk.hsm Bk.htg ?_ ?_ ?_ (by rw [hcp]; exact hans) hal ?_
    · rw [hcp, List.length_append]; exact Nat.succ_pos _
    · rw [hcp, List.length_append]
      show _ + 1 ≤ 20
      lia
    · intro c hc
      rw [hcp] at hc
      rcases List.mem_append.mp hc with hc | hc
      · exact hx2 c hc
      · rw [List.mem_singleton.mp hc]; decide
    intro h₀' h₁ tk₁ v nw₁ t₁ F₁ N₁ hk₁ S₁ hv₁
    dsimp only
    clear F N
    k_steps
    rename Fr h₀' L _ _ => F9
    rename News h₀' L _ _ => N9
    refine h _ _ _ _ v nw₁ t₁ F9 N9 hk₁ ⟨S₁, fun z hz => ?_, Bk.good, Bk.hsm, Bk.htg⟩ hv₁ (SetTo.of hnm)
    (refine feed (Bk.hav z hz) ?_; refine x1_1 ?_; intro o ho)
    by_cases e : z = G.ol
    · (refine feed (S₁.ol) ?_; refine x2_1 ?_; intro oo _; refine x0_2 ?_; intro c1 _)
      exact y1_1 oo (by rw [e]; exact c1)
    · exact y1_1 o (hk₁ _ ho e))
end
end
end Law4
section Law5
/-- the documents of a term -/
noncomputable def docsN (T : Nat → Nat → List Nat) (done : List (Nat × Nat)) (t : List Nat) : List Nat := (done.filter fun q => decide (T q.1 q.2 = t)).map (·.1)
theorem filt_split (T : Nat → Nat → List Nat) (t : List Nat) (l : List (List Nat)) (hn : t ∉ l) : ∀ done : List (Nat × Nat), (done.filter fun q => decide (T q.1 q.2 = t)).length + (done.filter fun q => decide (T q.1 q.2 ∈ l)).length ≤ (done.filter fun q => decide (T q.1 q.2 ∈ t :: l)).length
  | [] => Nat.le_refl _
  | q :: done => by
    have ih := filt_split T t l hn done
    by_cases h1 : T q.1 q.2 = t
    · have h2 : T q.1 q.2 ∉ l := h1 ▸ hn
      have h3 : T q.1 q.2 ∈ t :: l := h1 ▸ List.mem_cons_self
      simp only [List.filter_cons, h1, decide_true, decide_false, if_true, if_false, Bool.false_eq_true, List.length_cons, List.mem_cons, true_or, hn]
      simp only [List.mem_cons] at ih
      lia
    · by_cases h2 : T q.1 q.2 ∈ l
      · simp only [List.filter_cons, h1, h2, decide_true, decide_false, if_true, if_false, Bool.false_eq_true, List.length_cons, List.mem_cons, or_true]
        simp only [List.mem_cons] at ih
        lia
      · simp only [List.filter_cons, h1, h2, decide_false, if_false, Bool.false_eq_true, List.mem_cons, or_false]
        simp only [List.mem_cons] at ih
        lia
theorem flat_len (T : Nat → Nat → List Nat) (done : List (Nat × Nat)) : ∀ {l : List (List Nat)}, l.Nodup → (l.flatMap (docsN T done)).length ≤ (done.filter fun q => decide (T q.1 q.2 ∈ l)).length
  | [], _ => by simp
  | t :: l, h => by
    (refine feed (List.nodup_cons.mp h) ?_; refine x0_2 ?_; intro h1 h2)
    rw [List.flatMap_cons, List.length_append]
    have e := filt_split T t l h1 done
    have ih := flat_len T done h2
    have : (docsN T done t).length = (done.filter fun q => decide (T q.1 q.2 = t)).length := List.length_map ..
    lia
theorem flat_le (T : Nat → Nat → List Nat) (done : List (Nat × Nat)) {l : List (List Nat)} (h : l.Nodup) : (l.flatMap (docsN T done)).length ≤ done.length := Nat.le_trans (flat_len T done h) (List.length_filter_le _ _)
theorem PostsAt.ol {w : World} {nw0 l l' : Led} {dp ol : Addr} {T : Nat → Nat → List Nat} {done : List (Nat × Nat)} {o : Obj} {ps : List (List Nat × Addr)} (P : PostsAt w nw0 dp T done l o ps) (hs : ∀ p ∈ l, p.1 ≠ ol → p ∈ l') (h1 : dp ≠ ol) (h2 : ∀ p ∈ ps, p.2 ≠ ol) (h3 : ∀ q ∈ nw0, q.1 ≠ ol) : PostsAt w nw0 dp T done l' o ps :=
  ⟨hs _ P.mem h1, P.dict, P.nodup, P.knodup, P.keys, fun p hp => let ⟨vs, c, d1, d2⟩ := P.docs p hp; ⟨vs, c, hs _ d1 (h2 p hp), d2⟩, fun q hq => let ⟨a1, a2⟩ := P.old q hq; ⟨hs _ a1 (h3 q hq), a2⟩, P.lo, P.len⟩
theorem dropWhile_split {ts taken rem : List (List Nat)} {s0 bh : List Nat} (hts : ts.Pairwise (· < ·)) (e : (ts.filter fun x => decide (¬ x < s0)) = taken ++ rem) (h1 : ∀ t ∈ taken, ¬ bh < t) (h2 : ∀ t rem', rem = t :: rem' → bh < t) : (ts.filter fun x => decide (¬ x < s0) && decide (¬ bh < x)) = taken := by
  have hp : (taken ++ rem).Pairwise (· < ·) := e ▸ hts.filter _
  have e2 : (ts.filter fun x => decide (¬ x < s0) && decide (¬ bh < x)) = (ts.filter fun x => decide (¬ x < s0)).filter fun x => decide (¬ bh < x) := by
    rw [List.filter_filter]
    exact List.filter_congr fun x _ => Bool.and_comm _ _
  rw [e2, e, List.filter_append, List.filter_eq_self.mpr (fun t ht => decide_eq_true (h1 t ht))]
  have : rem.filter (fun x => decide (¬ bh < x)) = [] := by
    rw [List.filter_eq_nil_iff]
    intro t ht hd
    have hd := of_decide_eq_true hd
    cases rem with
    | nil => cases ht
    | cons r rem' =>
      have hr := h2 r rem' rfl
      rcases List.mem_cons.mp ht with rfl | ht
      · exact hd hr
      · exact hd (lt_tr hr ((List.pairwise_cons.mp (List.pairwise_append.mp hp).2.1).1 t ht))
  rw [this, List.append_nil]
theorem search_of {b : Bld} {ts : List (List Nat)} {K : List (List Nat)} {s0 : List Nat} {rem : List (List Nat)} (hacc : ∀ x, b.aut.Acc 0 x ↔ x ∈ K) (htm : ∀ x, x ∈ ts ↔ x ∈ K) (hp : rem.Pairwise (· < ·)) (hr : ∀ x, x ∈ rem ↔ x ∈ ts ∧ ¬ x < s0) : SearchIs b s0 rem.head? := by
  have e : (fun x => b.aut.Acc 0 x ∧ ¬ x < s0) = fun x => x ∈ ts ∧ ¬ x < s0 := funext fun x => by rw [hacc, htm]
  unfold SearchIs
  rw [e]
  exact least_head hp hr
theorem rem_tail {ts taken rem' : List (List Nat)} {s0 X : List Nat} (hts : ts.Pairwise (· < ·)) (e : (ts.filter fun x => decide (¬ x < s0)) = taken ++ X :: rem') : ∀ y, y ∈ rem' ↔ y ∈ ts ∧ ¬ y < X ++ [0] := by
  have hp : (taken ++ X :: rem').Pairwise (· < ·) := e ▸ hts.filter _
  (refine feed (List.pairwise_append.mp hp) ?_; refine x0_3 ?_; intro p1 p2 p3)
  (refine feed (List.pairwise_cons.mp p2) ?_; refine x0_2 ?_; intro p4 p5)
  intro y
  rw [lt_snoc0]
  constructor
  · intro hy
    have : y ∈ ts.filter fun x => decide (¬ x < s0) := by rw [e]; exact List.mem_append_right _ (.tail _ hy)
    exact ⟨(List.mem_filter.mp this).1, p4 y hy⟩
  · (refine x0_2 ?_; intro hy hlt)
    have hX : X ∈ ts.filter fun x => decide (¬ x < s0) := by rw [e]; exact List.mem_append_right _ (.head _)
    have hX0 : ¬ X < s0 := of_decide_eq_true (List.mem_filter.mp hX).2
    have hm : y ∈ ts.filter fun x => decide (¬ x < s0) := List.mem_filter.mpr ⟨hy, decide_eq_true fun h => hX0 (lt_tr hlt h)⟩
    rw [e] at hm
    rcases List.mem_append.mp hm with hm | hm
    · exact absurd (p3 y hm X (.head _)) fun h => lt_irr _ (lt_tr hlt h)
    · rcases List.mem_cons.mp hm with rfl | hm
      · exact absurd hlt (lt_irr _)
      · exact hm
noncomputable def RowJ (w : World) (nw : Led) (G : Ads) (b : Bld) (av : List Addr) (T : Nat → Nat → List Nat) (done : List (Nat × Nat)) (R0 : List (List Nat)) (fs : List Nat) (bh : List Nat) (n : Nat) (st : Value × Addr) (l : Led) : Prop :=
  ∃ taken rem fvs c, R0 = taken ++ rem ∧ n = rem.length ∧ ((st.1 = .none ∧ rem = []) ∨ ∃ x t rem', st.1 = .str x t ∧ rem = x.cps.toList :: rem') ∧ (∀ t ∈ taken, ¬ bh < t) ∧ (st.2, listOf (List.toArray fvs) c) ∈ l ∧ IntsAre fvs ((fs ++ taken.flatMap (docsN T done)).map Nat.cast) ∧ BookAt w l G b av ∧ ∀ p ∈ nw, p.1 ≠ G.ol → p ∈ l
section
variable {w : World} {A A₀ : Around} {base : Heap} {outer : List Env} {s : Shared} {h₀ : Heap} {L fa : Addr} {cd : Value} {m : Str → Option Value} {nw : Led} {E : Value → Shared → Prop} {Q : Flow → Shared → Prop} {sz sh x : Int} {t1 t2 t3 t4 : Tok}
theorem law_test_none (C : LawC w A A₀ base outer h₀ L fa cd) (F : Fr h₀ L s.heap m) {Q : Bool → Shared → Prop} (mt : m (Str.ofString "term") = some .none) (h : Q false s) :
    wpAny (model prog w) A (isTrue lwts.1 (envL L fa cd) (eval lwts.1 (envL L fa cd))) Q E s := by
  obtain ⟨B, X, ⟨lo, mean, mg, mb, T⟩, hA, hh, hd, hu, -, -, -⟩ := C
  have hnm : ∀ p ∈ [(Str.ofString "term", Value.none)], m p.1 = some p.2 := by
    intro p hp
    simp only [List.mem_cons, List.not_mem_nil, or_false] at hp
    subst hp; exact mt
  replace F := fr_congr F (over_self hnm)
  dsimp only [over] at F
  dsimp only [lwts, envL]
  k_steps
  exact h
section
local macro_rules | `(tactic| walk_at $s:str) => do
  let k := Lean.Syntax.mkStrLit ("L15:" ++ s.getString)
  `(tactic| k_extra $k)
theorem law_test_str (C : LawC w A A₀ base outer h₀ L fa cd) (F : Fr h₀ L s.heap m) {Q : Bool → Shared → Prop} {x y : Str} {t u : Tok} (mt : m (Str.ofString "term") = some (.str x t)) (mb : m (Str.ofString "behind") = some (.str y u)) (h : Q (!(y.cps.toList < x.cps.toList)) s) :
    wpAny (model prog w) A (isTrue lwts.1 (envL L fa cd) (eval lwts.1 (envL L fa cd))) Q E s := by
  obtain ⟨B, X, ⟨lo, mean, mg, mb', T⟩, hA, hh, hd, hu, -, -, -⟩ := C
  have hnm : ∀ p ∈ [(Str.ofString "term", Value.str x t), (Str.ofString "behind", Value.str y u)], m p.1 = some p.2 := by
    intro p hp
    simp only [List.mem_cons, List.not_mem_nil, or_false] at hp
    rcases hp with rfl | rfl
    · exact mt
    · exact mb
  replace F := fr_congr F (over_self hnm)
  dsimp only [over] at F
  dsimp only [lwts, envL]
  k_with "L15:compareOp LtE str str" => (k_here; refine stop_of ?_)
  k_steps
  refine Stop.out ?_
  refine PySem.P.le_str ?_
  generalize (!(y.cps.toList < x.cps.toList : Bool)) = bb at *
  k_steps
  all_goals
    rename (bb = _) => hb
    rw [hb] at h
    exact h
end
theorem law_while (C : LawC w A A₀ base outer h₀ L fa cd) (F : Fr h₀ L s.heap m) (N : News h₀ L s.heap nw) {nw0 : Led} {dp : Addr} {T : Nat → Nat → List Nat} {done : List (Nat × Nat)} {o : Obj} {ps : List (List Nat × Addr)} (P : PostsAt w nw0 dp T done nw o ps) {G : Ads} {b : Bld} {av : List Addr} (Bk : BookAt w nw G b av)
    (hacc : ∀ x, b.aut.Acc 0 x ↔ x ∈ ps.map (·.1)) {ts : List (List Nat)} (hts : ts.Pairwise (· < ·)) (htm : ∀ x, x ∈ ts ↔ x ∈ ps.map (·.1)) (htn : ∀ t ∈ ts, t.length ≤ 12 ∧ ∀ c ∈ t, c < 128) (hol : dp ≠ G.ol ∧ (∀ p ∈ ps, p.2 ≠ G.ol) ∧ ∀ q ∈ nw0, q.1 ≠ G.ol)
    {fl : Addr} {fvs : List Value} {c : Nat} {fs : List Nat} (hfl : (fl, listOf (List.toArray fvs) c) ∈ nw) (hf : IntsAre fvs (fs.map Nat.cast)) (hfz : fs.length ≤ 1000) (hdone : done.length ≤ 40) {s0 bh : List Nat} {v : Value} {ans : Option (List Nat)} {tb : Tok}
    (hv : (v = .none ∧ ans = none) ∨ (∃ x t, v = .str x t ∧ ans = some x.cps.toList)) (hans : ans = (ts.filter fun x => decide (¬ x < s0)).head?)
    (m1 : m (Str.ofString "term") = some v) (m2 : m (Str.ofString "found") = some (.ref fl)) (m3 : m (Str.ofString "posts") = some (.ref dp)) (m4 : m (Str.ofString "book") = some (.ref G.x)) (m5 : m (Str.ofString "behind") = some (.str ⟨bh.toArray⟩ tb)) (hE : PassesOwn (model prog w) A (envL L fa cd) E) {pp : Pos}
    (h : ∀ h₀' h' tk' m' nw' fl' fvs' c', TurnS A₀ base outer h₀ h₀' → Fr h₀' L h' m' → News h₀' L h' nw' → (∀ p ∈ nw, p.1 ≠ G.ol → p ∈ nw') → BookAt w nw' G b av → (fl', listOf (List.toArray fvs') c') ∈ nw' → IntsAre fvs' ((fs ++ (ts.filter fun x => decide (¬ x < s0) && decide (¬ bh < x)).flatMap (docsN T done)).map Nat.cast) →
      m' (Str.ofString "found") = some (.ref fl') → (∀ y, y ∉ [Str.ofString "term", "found"] → m' y = m y) → Q .next ⟨h', s.gens, s.drawn, tk', s.os⟩) :
    wpAny (model prog w) A (exec (.While lwts.1 [lw0s.1, lw1s.1, lw2s.1] [] pp) (envL L fa cd)) Q E s := by
  refine While_S (α := Value × Addr) (env := envL L fa cd) (L := L) (fun st => [(Str.ofString "term", st.1), (Str.ofString "found", .ref st.2)]) (fun _ => False) (RowJ w nw G b av T done (ts.filter fun x => decide (¬ x < s0)) fs bh) (v, fl) (ts.filter fun x => decide (¬ x < s0)).length C.cxT F N ?hm ?hJ ?turn hE
  case hm =>
    intro p hp
    simp only [List.mem_cons, List.not_mem_nil, or_false] at hp
    rcases hp with rfl | rfl
    · exact m1
    · exact m2
  case hJ =>
    refine y4_1 ([]) _ fvs c (ya8 rfl rfl ?_ (fun _ h => nomatch h) hfl (by simpa using hf) Bk (fun p hp _ => hp))
    rcases hv with ⟨e1, e2⟩ | ⟨x, t, e1, e2⟩
    · exact .inl ⟨e1, by rw [hans] at e2; simpa using e2⟩
    · rw [hans] at e2
      obtain ⟨rem', e3⟩ := List.head?_eq_some_iff.mp e2
      exact .inr ⟨x, t, rem', e1, e3⟩
  case turn =>
    intro KW hKW
    (intro n; refine xp ?_; intro v₁ fl₁; intro g₁ m₁ nw₁ h₁ tk₁ t₁ F₁ N₁ hn₁ hm₁; refine x4_1 ?_; intro taken rem fvs₁ c₁; refine x0_8 ?_; intro hR; intro zz9; subst zz9; intro hv₁ htk hfl₁ hf₁ Bk₁ hk₁)
    have C₁ := C.turn t₁
    have k1 : m₁ (Str.ofString "term") = some v₁ := hn₁ _ (.head _)
    have k2 : m₁ (Str.ofString "found") = some (.ref fl₁) := hn₁ _ (.tail _ (.head _))
    have hmm : ∀ y, y ∉ [Str.ofString "term", "found"] → m₁ y = m y := fun y hy => hm₁ y (fun h => h) (by
      intro p hp
      simp only [List.mem_cons, List.not_mem_nil, or_false, not_or] at hp hy
      rcases hp with rfl | rfl
      · exact hy.1
      · exact hy.2)
    have k3 : m₁ (Str.ofString "posts") = some (.ref dp) := (hmm _ (by decide)).trans m3
    have k4 : m₁ (Str.ofString "book") = some (.ref G.x) := (hmm _ (by decide)).trans m4
    have k5 : m₁ (Str.ofString "behind") = some (.str ⟨bh.toArray⟩ tb) := (hmm _ (by decide)).trans m5
    have fin : (∀ t rem', rem = t :: rem' → bh < t) → Q .next { s with heap := h₁, toks := tk₁ } := fun hr => by
      refine h g₁ h₁ tk₁ m₁ nw₁ fl₁ fvs₁ c₁ t₁ F₁ N₁ hk₁ Bk₁ hfl₁ ?_ k2 hmm
      rw [dropWhile_split hts hR htk hr]
      exact hf₁
    rcases hv₁ with ⟨e1, e2⟩ | ⟨x, t, rem', e1, e2⟩
    · dsimp only at e1
      subst e1
      refine law_test_none (s := { s with heap := h₁, toks := tk₁ }) C₁ F₁ k1 ?_
      rw [if_neg Bool.false_ne_true]
      exact fin fun t rem' e => by rw [e2] at e; cases e
    · dsimp only at e1
      subst e1
      refine law_test_str (s := { s with heap := h₁, toks := tk₁ }) C₁ F₁ k1 k5 ?_
      by_cases hc : bh < x.cps.toList
      · have hc' : (!decide ((⟨bh.toArray⟩ : Str).cps.toList < x.cps.toList)) = false := by
          simp only [hc, decide_true, Bool.not_true]
        rw [if_neg (by rw [hc']; exact Bool.false_ne_true)]
        exact fin fun t r e => by
          rw [e2] at e
          cases e
          exact hc
      · have hc' : (!decide ((⟨bh.toArray⟩ : Str).cps.toList < x.cps.toList)) = true := by
          simp only [hc, decide_false, Bool.not_false]
        rw [if_pos hc']
        subst e2
        have P₁ := P.ol hk₁ hol.1 hol.2.1 hol.2.2
        have hX : x.cps.toList ∈ ts.filter fun x => decide (¬ x < s0) := by rw [hR]; exact List.mem_append_right _ (.head _)
        have hXts := (List.mem_filter.mp hX).1
        have hxx : x = ⟨x.cps.toList.toArray⟩ := by cases x; simp
        obtain ⟨a, hval, hpa⟩ : ∃ a, valueAt (ps.map pkv) x = some (.ref a) ∧ (x.cps.toList, a) ∈ ps := by
          rcases posts_find ps x.cps.toList with ⟨_, h2⟩ | ⟨a, h1, h2⟩
          · exact absurd ((htm _).1 hXts) h2
          · exact y1_1 a (ya2 (by rw [hxx]; exact h1) h2)
        (refine feed (P₁.docs _ hpa) ?_; refine x2_1 ?_; intro dv dc; refine x0_2 ?_; intro d1 d2)
        have hp : (taken ++ x.cps.toList :: rem').Pairwise (· < ·) := hR ▸ hts.filter _
        have hnd : (taken ++ [x.cps.toList]).Nodup := by
          have h1 : (taken ++ x.cps.toList :: rem').Nodup := List.Pairwise.imp (R := fun a b : List Nat => a < b) (fun {a b} h (e : a = b) => lt_irr b (by rw [e] at h; exact h)) hp
          exact List.Sublist.nodup (List.sublist_append_left (taken ++ [x.cps.toList]) rem' |>.trans (by simp)) h1
        have hz := flat_le T done hnd
        rw [List.flatMap_append, List.length_append] at hz
        have hds : docsN T done x.cps.toList = (done.filter fun q => decide (T q.1 q.2 = x.cps.toList)).map (·.1) := rfl
        have hd2 : IntsAre dv ((docsN T done x.cps.toList).map Nat.cast) := by
          rw [hds, List.map_map]; exact d2
        refine wpAny_execs_cons (law_w0 (s := ⟨h₁, s.gens, s.drawn, tk₁, s.os⟩) C₁ F₁ N₁ P₁.mem P₁.dict P₁.lo hval k1 k3 fun h₂ tk₂ F₂ N₂ => ?_)
        dsimp only
        refine wpAny_execs_cons (law_w1 (s := ⟨h₂, s.gens, s.drawn, tk₂, s.os⟩) C₁ F₂ N₂ P₁.mem P₁.dict P₁.lo hval d1 hd2 hfl₁ hf₁ ?_ k1 k3 k2 fun h₃ tk₃ m₃ l₃ vs₃ F₃ N₃ hI₃ S₃ => ?_)
        · simp only [List.length_map, List.length_append, List.flatMap_cons, List.flatMap_nil, List.append_nil] at hz ⊢
          lia
        dsimp only
        have Bk₃ : BookAt w ((l₃, listOf (List.toArray vs₃) 0) :: nw₁) G b av := ⟨Bk₁.S.mono fun p hp _ => .tail _ hp, fun z hz => let ⟨o, ho⟩ := Bk₁.hav z hz; ⟨o, .tail _ ho⟩, Bk₁.good, Bk₁.hsm, Bk₁.htg⟩
        refine wpAny_execs_cons (law_w2 (s := ⟨h₃, s.gens, s.drawn, tk₃, s.os⟩) C₁ F₃ N₃ Bk₃ ((S₃.ne _ (by decide)).trans k1) ((S₃.ne _ (by decide)).trans k4) (htn _ hXts).1 (htn _ hXts).2
          (search_of hacc htm (List.pairwise_cons.mp (List.pairwise_append.mp hp).2.1).2 (rem_tail hts hR)) (fun y hy => ?_) fun h₀' h₄ tk₄ m₄ v₄ nw₄ t₄ F₄ N₄ hk₄ Bk₄ hv₄ S₄ => ?_)
        · have : y ∈ rem' := List.mem_of_head? hy
          exact Nat.le_trans (htn y ((rem_tail hts hR y).1 this).1).1 (by decide)
        dsimp only
        refine wpAny_execs_nil ?_
        refine hKW _ _ _ ?_
        refine WPost.intro (v₄, l₃) rem'.length (t₁.trans t₄) F₄ N₄ ?_ ?_ (Nat.lt_succ_self _) ⟨taken ++ [x.cps.toList], rem', vs₃, 0, by rw [hR]; simp, rfl, ?_, ?_, ?_, ?_, Bk₄, ?_⟩
        · intro p hp
          simp only [List.mem_cons, List.not_mem_nil, or_false] at hp
          rcases hp with rfl | rfl
          · exact S₄.at_
          · exact (S₄.ne _ (show Str.ofString "found" ≠ Str.ofString "term" by decide)).trans S₃.at_
        · intro y _ hy
          have n1 : y ≠ Str.ofString "term" := hy _ (.head _)
          have n2 : y ≠ Str.ofString "found" := hy _ (.tail _ (.head _))
          exact (S₄.ne _ n1).trans ((S₃.ne _ n2).trans (hmm y (by simp [n1, n2])))
        · rcases hv₄ with ⟨e1, e2⟩ | ⟨y, ty, e1, e2⟩
          · exact .inl ⟨e1, by simpa using e2⟩
          · obtain ⟨r, e3⟩ := List.head?_eq_some_iff.mp e2
            exact .inr ⟨y, ty, r, e1, e3⟩
        · intro y hy
          rcases List.mem_append.mp hy with hy | hy
          · exact htk y hy
          · rw [List.mem_singleton.mp hy]; exact hc
        · exact hk₄ _ (.head _) (by
            (refine feed (Bk₃.S.ol) ?_; refine x2_1 ?_; intro oo _; refine x0_3 ?_; intro c1 c2 _)
            refine ne_of_cls N₃ (.head _) c1 ?_
            (refine feed (KdkAt.of c2) ?_; refine x1_1 ?_; intro ep hat)
            (revert hat; refine x1_1 ?_; intro es; refine x0_2 ?_; intro h1 _)
            rw [h1.1]; simp)
        · rw [List.flatMap_append, List.flatMap_cons, List.flatMap_nil, List.append_nil, ← List.append_assoc, List.map_append]
          exact hI₃
        · exact fun p hp hn => hk₄ _ (.tail _ (hk₁ p hp hn)) hn
end
end Law5
section Law6
noncomputable def rowT (z st k S : Nat) : List Nat := (33 + k * st) :: digs (if (z : Int) = 64 then 10 else 5) S []
theorem txt_first (z st k S : Nat) : txtC (z : Int) ((k * st : Nat) : Int) ((S * 2 ^ (k * st) : Nat) : Int) = rowT z st k S := by
  unfold txtC rowT
  rw [show (33 + ((k * st : Nat) : Int)).toNat = 33 + k * st by lia, Int.toNat_natCast, Int.toNat_natCast, Nat.mul_div_cancel _ (Nat.two_pow_pos _)]
theorem toNat_pred (M P : Nat) (h : 0 < P) : (((M + P : Nat) : Int) - 1).toNat = M + (P - 1) := by lia
theorem toNat_33 (n : Nat) : (33 + ((n : Nat) : Int)).toNat = 33 + n := by lia
theorem txt_last (z st k E : Nat) : txtC (z : Int) ((k * st : Nat) : Int) ((((E + 1) * 2 ^ (k * st) : Nat) : Int) - 1) = rowT z st k E := by
  have hp := Nat.two_pow_pos (k * st)
  have e : ((((E + 1) * 2 ^ (k * st) : Nat) : Int) - 1).toNat = E * 2 ^ (k * st) + (2 ^ (k * st) - 1) := by
    rw [Nat.succ_mul]; exact toNat_pred _ _ hp
  unfold txtC rowT
  rw [toNat_33, Int.toNat_natCast, e, Nat.mul_comm E, Nat.mul_add_div hp, Nat.div_eq_of_lt (show 2 ^ (k * st) - 1 < 2 ^ (k * st) from Nat.pred_lt (Nat.ne_of_gt hp)), Nat.add_zero]
section
variable {w : World} {A A₀ : Around} {base : Heap} {outer : List Env} {s : Shared} {h₀ : Heap} {L fa : Addr} {cd : Value} {m : Str → Option Value} {nw : Led} {E : Value → Shared → Prop} {Q : Flow → Shared → Prop} {t1 t2 t3 t4 : Tok}
theorem law_row (C : LawC w A A₀ base outer h₀ L fa cd) (F : Fr h₀ L s.heap m) (N : News h₀ L s.heap nw) {nw0 : Led} {dp : Addr} {T : Nat → Nat → List Nat} {done : List (Nat × Nat)} {o : Obj} {ps : List (List Nat × Addr)} (P : PostsAt w nw0 dp T done nw o ps) {G : Ads} {b : Bld} {av : List Addr} (Bk : BookAt w nw G b av)
    (hacc : ∀ x, b.aut.Acc 0 x ↔ x ∈ ps.map (·.1)) {ts : List (List Nat)} (hts : ts.Pairwise (· < ·)) (htm : ∀ x, x ∈ ts ↔ x ∈ ps.map (·.1)) (htn : ∀ t ∈ ts, t.length ≤ 12 ∧ ∀ c ∈ t, c < 128) (hol : dp ≠ G.ol ∧ (∀ p ∈ ps, p.2 ≠ G.ol) ∧ ∀ q ∈ nw0, q.1 ≠ G.ol)
    {fl : Addr} {fvs : List Value} {c : Nat} {fs : List Nat} (hfl : (fl, listOf (List.toArray fvs) c) ∈ nw) (hf : IntsAre fvs (fs.map Nat.cast)) (hfz : fs.length ≤ 1000) (hdone : done.length ≤ 40) {z st k S S' : Nat} (hks : k * st ≤ 64)
    (mz : m (Str.ofString "size") = some (.int (z : Nat) t1)) (m1 : m (Str.ofString "first") = some (.int ((S * 2 ^ (k * st) : Nat) : Int) t2)) (m2 : m (Str.ofString "last") = some (.int ((((S' + 1) * 2 ^ (k * st) : Nat) : Int) - 1) t3)) (m3 : m (Str.ofString "shift") = some (.int ((k * st : Nat) : Int) t4))
    (m4 : m (Str.ofString "posts") = some (.ref dp)) (m5 : m (Str.ofString "book") = some (.ref G.x)) (m6 : m (Str.ofString "found") = some (.ref fl)) (hE : PassesOwn (model prog w) A (envL L fa cd) E) {pp : Pos}
    (h : ∀ h₀' h' tk' m' nw' fl' fvs' c', TurnS A₀ base outer h₀ h₀' → Fr h₀' L h' m' → News h₀' L h' nw' → (∀ p ∈ nw, p.1 ≠ G.ol → p ∈ nw') → BookAt w nw' G b av → (fl', listOf (List.toArray fvs') c') ∈ nw' →
      IntsAre fvs' ((fs ++ (ts.filter fun x => decide (¬ x < rowT z st k S) && decide (¬ rowT z st k S' < x)).flatMap (docsN T done)).map Nat.cast) → m' (Str.ofString "found") = some (.ref fl') → (∀ y, y ∉ [Str.ofString "behind", "term", "found"] → m' y = m y) → Q .next ⟨h', s.gens, s.drawn, tk', s.os⟩) :
    wpAny (model prog w) A (execs [lr0s.1, lr1s.1, .While lwts.1 [lw0s.1, lw1s.1, lw2s.1] [] pp] (envL L fa cd)) Q E s := by
  have hp := Nat.two_pow_pos (k * st)
  have hx2 : (0 : Int) ≤ (((S' + 1) * 2 ^ (k * st) : Nat) : Int) - 1 := by rw [Nat.succ_mul]; lia
  refine wpAny_execs_cons (law_r0 C F N mz m3 m2 hx2 (Int.natCast_nonneg _) (by lia) fun h₁ tk₁ m₁ tb F₁ N₁ S₁ => ?_)
  dsimp only
  rw [txt_last] at S₁
  have hfr := filter_rem hts (rowT z st k S)
  refine wpAny_execs_cons (law_r1 (s := ⟨h₁, s.gens, s.drawn, tk₁, s.os⟩) C F₁ N₁ Bk ((S₁.ne _ (by decide)).trans mz) ((S₁.ne _ (by decide)).trans m3) ((S₁.ne _ (by decide)).trans m1) ((S₁.ne _ (by decide)).trans m5) (Int.natCast_nonneg _) (Int.natCast_nonneg _) (by lia)
    (ans := (ts.filter fun x => decide (¬ x < rowT z st k S)).head?) (by rw [txt_first]; exact search_of hacc htm hfr.1 hfr.2) (fun y hy => ?_) fun h₀' h₂ tk₂ m₂ v nw₂ t₂ F₂ N₂ hk₂ Bk₂ hv₂ S₂ => ?_)
  · exact Nat.le_trans (htn y ((hfr.2 y).1 (List.mem_of_head? hy)).1).1 (by decide)
  dsimp only
  have P₂ := P.ol hk₂ hol.1 hol.2.1 hol.2.2
  have hflo : fl ≠ G.ol := by
    (refine feed (Bk.S.ol) ?_; refine x2_1 ?_; intro oo _; refine x0_3 ?_; intro c1 c2 _)
    refine ne_of_cls N hfl c1 ?_
    (refine feed (KdkAt.of c2) ?_; refine x1_1 ?_; intro ep hat)
    (revert hat; refine x1_1 ?_; intro es; refine x0_2 ?_; intro h1 _)
    rw [h1.1]; simp
  have g : ∀ y, y ≠ Str.ofString "behind" → y ≠ Str.ofString "term" → m₂ y = m y := fun y n1 n2 => (S₂.ne _ n2).trans (S₁.ne _ n1)
  refine wpAny_execs_cons (law_while (s := ⟨h₂, s.gens, s.drawn, tk₂, s.os⟩) (C.turn t₂) F₂ N₂ P₂ Bk₂ hacc hts htm htn hol (hk₂ _ hfl hflo) hf hfz hdone hv₂ rfl S₂.at_ ((g _ (by decide) (by decide)).trans m6) ((g _ (by decide) (by decide)).trans m4) ((g _ (by decide) (by decide)).trans m5) ((S₂.ne _ (by decide)).trans S₁.at_) hE
    fun h₀'' h₃ tk₃ m₃ nw₃ fl₃ fvs₃ c₃ t₃ F₃ N₃ hk₃ Bk₃ hfl₃ hf₃ mf hm₃ => ?_)
  dsimp only
  refine wpAny_execs_nil ?_
  exact h _ _ _ m₃ nw₃ fl₃ fvs₃ c₃ (t₂.trans t₃) F₃ N₃ (fun p hp hn => hk₃ _ (hk₂ p hp hn) hn) Bk₃ hfl₃ hf₃ mf fun y hy => by
    simp only [List.mem_cons, List.not_mem_nil, or_false, not_or] at hy
    exact (hm₃ y (by simp [hy.2.1, hy.2.2])).trans (g y hy.1 hy.2.1)
end
end Law6
section Law7
/-- the generator as its caller keeps it: n rows to come -/
noncomputable def GenI (w : World) (base : Heap) (A : Around) (fr : List Env) (L' : Nat) (R : List (Nat × Nat × Nat)) (st : Nat) (nw : Led) (gens : Array GenState) (n : Nat) : Prop :=
  ∃ gs oF oC psT ex, gens = #[gs] ∧ (L', oF) ∈ nw ∧ (∃ es n, oF.data = .dict es n) ∧ (L' + 1, oC) ∈ nw ∧ (∃ v, oC.data = .cell v) ∧ (51, tabObj psT) ∈ nw ∧ (∀ p ∈ ex, p ∈ nw ∧ L' ≤ (p.1 : Nat) ∧ p.1 ∉ [L', L' + 1, 51]) ∧
    ∀ s'', GR w base A fr L' oF oC psT ex s''.heap → gs.Goes (model prog w) A.in1 (GEd L') (GY w base A fr L' R st) n (.send .none) s''
/-- the ledger without what the generator turns -/
noncomputable def offG (L' : Nat) (nw : Led) : Led := nw.filter fun p => !([L', L' + 1, 51] : List Addr).contains p.1
theorem mem_offG {L' : Nat} {nw : Led} {p : Addr × Obj} : p ∈ offG L' nw ↔ p ∈ nw ∧ p.1 ∉ ([L', L' + 1, 51] : List Addr) := by
  unfold offG
  rw [List.mem_filter]
  simp only [Bool.not_eq_true', List.contains_eq_mem, decide_eq_false_iff_not]
theorem not_off {L' : Nat} {b : Addr} (h : b ∉ ([L', L' + 1, 51] : List Addr)) : b ≠ L' ∧ b ≠ L' + 1 ∧ b ≠ 51 := by
  simp only [List.mem_cons, List.not_mem_nil, or_false, not_or] at h
  exact h
section
variable {w : World} {base : Heap} {A A₀ : Around} {env : Env} {outer : List Env} {h₀ h h₁ : Heap} {L : Addr} {L' : Nat} {m : Str → Option Value} {nw : Led}
theorem kept_fr (F : Fr h₀ L h m) (N : News h₀ L h nw) (hk : Kept L' h h₁) (hL : L < L') {o51 : Obj} (h51 : (51, o51) ∈ nw) : Fr h₀ L h₁ m ∧ News h₀ L h₁ (offG L' nw) := by
  have n1 : L ≠ L' := Nat.ne_of_lt hL
  have n2 : L ≠ L' + 1 := Nat.ne_of_lt (Nat.lt_succ_of_lt hL)
  have n3 : L ≠ 51 := (N _ h51).2.1.symm
  refine ⟨⟨F.ns.at' fun o e => hk _ o n1 n2 n3 e, fun b o e => ?_, F.above⟩, fun p hp => ?_⟩
  · have hb : (b : Nat) < L := Nat.lt_of_lt_of_le (Heap.lt_size e) F.above
    refine hk b o (Nat.ne_of_lt (Nat.lt_trans hb hL)) (Nat.ne_of_lt (Nat.lt_succ_of_lt (Nat.lt_trans hb hL))) (fun q => ?_) (F.keep b o e)
    have := (N _ h51).2.2
    rw [← q, e] at this; cases this
  · (refine feed (mem_offG.mp hp) ?_; refine x0_2 ?_; intro h1 h2)
    (refine feed (not_off h2) ?_; refine x0_3 ?_; intro a1 a2 a3)
    exact ⟨hk _ _ a1 a2 a3 (N p h1).1, (N p h1).2⟩
end
section
variable {w : World} {base : Heap} {A A₀ : Around} {env : Env} {outer : List Env} {h₀ : Heap} {L : Addr} {L' : Nat} {m : Str → Option Value} {nw : Led} {s : Shared} {Q : Option Value → Shared → Prop} {E : Value → Shared → Prop} {R : List (Nat × Nat × Nat)} {st n : Nat} {gA : Addr} {oG : Obj} {lo mean mg mb}
theorem gen_next (B : Below A₀ base outer h₀) (X : (K w.params).In h₀) (T : Top topProg lo mean mg mb h₀) (CH : CodeHd h₀ 55 51) (F : Fr h₀ L s.heap m) (N : News h₀ L s.heap nw) (hA : A.frames = some (env :: outer)) (hf : env.frame = some L) (hke : env.scope.kind = .function) (hh : A.handled = none) (hd : A.depth ≤ 305)
    (hL : L < L') (h51L : (51 : Nat) < L) (hG : (gA, oG) ∈ nw) (hGO : GenO 0 oG) (I : GenI w base A (env :: outer) L' R st nw s.gens n)
    (hY : ∀ n' h' gens' tk' nw₁ tp row a1 a2 a3, n = n' + 1 → R[R.length - n]? = some row → Fr h₀ L h' m → News h₀ L h' nw₁ → (∀ p ∈ nw, p.1 ∉ ([L', L' + 1, 51] : List Addr) → p ∈ nw₁) → GenI w base A (env :: outer) L' R st nw₁ gens' n' →
      h'.IsTuple tp #[.int (rowI st row).1 a1, .int (rowI st row).2.1 a2, .int (rowI st row).2.2 a3] → Q (some (.ref tp)) ⟨h', gens', s.drawn, tk', s.os⟩)
    (hP : n = 0 → ∀ h' tk' nw₁ ps, Fr h₀ L h' m → News h₀ L h' nw₁ → (51, tabObj ps) ∈ nw₁ → (∀ p ∈ nw, p.1 ∉ ([L', L' + 1, 51] : List Addr) → p ∈ nw₁) → Q none ⟨h', #[.finished], s.drawn, tk', s.os⟩) :
    wpAny (model prog w) A (pyNext (.ref gA)) Q E s := by
  (revert I; refine x5_1 ?_; intro gs oF oC psT ex; refine x0_8 ?_; intro hg hmF hFd hmC hCd hmP hex hgo)
  have hsg : s.gens[0]? = some gs := by rw [hg]; rfl
  (refine feed (hGO.dat) ?_; refine x2_1 ?_; intro nm qn hdat)
  have h51 : (51 : Addr) ≠ L := (N _ hmP).2.1
  have l51 : (51 : Nat) < L' := Nat.lt_trans h51L hL
  have hGR := GR.of B F N hA hf hke X T CH hL l51 hmF hmC hmP hex
  have sg : ∀ x, (s.setGen 0 x).gens = #[x] := fun x => by
    show s.gens.setIfInBounds 0 x = #[x]
    rw [hg]; rfl
  refine wpAny_pyNext_gen (g := 0) (n := n) (gs := gs) (P := GP L') (Y := GY w base A (env :: outer) L' R st) hh (T.nolimit.keeps F.keep) (by refine Nat.lt_of_le_of_lt hd ?_; decide) ⟨oG, nm, qn, (N _ hG).1, hGO.cls, hdat, hGO.slots⟩ hsg (hgo _ hGR) (fun v s₁ gs' hy => ?_) (fun s₁ hp h' hk => ?_)
  · obtain ⟨g1, g2, g3, kp, oF', oC', ps', ex', tp, a1, a2, a3, row, rfl, htp, hrow, htup, hF', hFd', hC', hCd', hP', hex', hk'⟩ := hy
    (refine feed (kept_fr F N kp hL hmP) ?_; refine x0_2 ?_; intro F₁ N₁)
    have N' : News h₀ L s₁.heap (ex' ++ (L', oF') :: (L' + 1, oC') :: (51, tabObj ps') :: offG L' nw) := fun p hp => by
      rcases List.mem_append.mp hp with hp | hp
      · (refine feed (hex' p hp) ?_; refine x0_4 ?_; intro b1 b2 _ _)
        have hlt : (L : Nat) < p.1 := Nat.lt_trans hL b2
        exact ⟨b1, Nat.ne_of_gt hlt, Heap.get?_none_of_le (Nat.le_trans F.above (Nat.le_of_lt hlt))⟩
      rcases List.mem_cons.mp hp with rfl | hp
      · exact ⟨hF', (N _ hmF).2⟩
      rcases List.mem_cons.mp hp with rfl | hp
      · exact ⟨hC', (N _ hmC).2⟩
      rcases List.mem_cons.mp hp with rfl | hp
      · exact ⟨hP', (N _ hmP).2⟩
      · exact N₁ p hp
    have q1 : (L', oF') ∈ ex' ++ (L', oF') :: (L' + 1, oC') :: (51, tabObj ps') :: offG L' nw := List.mem_append_right _ (.head _)
    have q2 : (L' + 1, oC') ∈ ex' ++ (L', oF') :: (L' + 1, oC') :: (51, tabObj ps') :: offG L' nw := List.mem_append_right _ (.tail _ (.head _))
    have q3 : ((51 : Addr), tabObj ps') ∈ ex' ++ (L', oF') :: (L' + 1, oC') :: (51, tabObj ps') :: offG L' nw := List.mem_append_right _ (.tail _ (.tail _ (.head _)))
    have q4 : ∀ p ∈ ex', p ∈ ex' ++ (L', oF') :: (L' + 1, oC') :: (51, tabObj ps') :: offG L' nw ∧ L' ≤ (p.1 : Nat) ∧ p.1 ∉ ([L', L' + 1, 51] : List Addr) := fun p hp => by
      (refine feed (hex' p hp) ?_; refine x0_4 ?_; intro _ b2 b3 b4)
      refine ⟨List.mem_append_left _ hp, Nat.le_of_lt b2, fun hm => ?_⟩
      simp only [List.mem_cons, List.not_mem_nil, or_false] at hm
      rcases hm with e | e | e
      · exact absurd b2 (by rw [e]; exact Nat.lt_irrefl _)
      · exact b3 e
      · exact b4 e
    have hGR' := GR.of B F₁ N' hA hf hke X T CH hL l51 q1 q2 q3 q4
    have es : s₁.setGen 0 gs' = ⟨s₁.heap, #[gs'], s.drawn, s₁.toks, s.os⟩ := by
      have e1 : s₁.gens = #[.running] := g1.trans (sg _)
      cases s₁
      dsimp only at g2 g3 e1
      subst e1
      show Shared.mk _ _ _ _ _ = _
      rw [g2, g3]; rfl
    cases n with
    | zero => exact (hk' s₁ hGR').elim
    | succ n' =>
      rw [es]
      exact hY n' s₁.heap #[gs'] s₁.toks _ tp row a1 a2 a3 rfl hrow F₁ N' (fun p hp hn => List.mem_append_right _ (.tail _ (.tail _ (.tail _ (mem_offG.mpr ⟨hp, hn⟩))))) ⟨gs', oF', oC', ps', ex', rfl, q1, hFd', q2, hCd', q3, q4, hk'⟩ htup
  · obtain ⟨h0, g1, g2, g3, kp, ps, hps⟩ := hp
    (refine feed (kept_fr F N kp hL hmP) ?_; refine x0_2 ?_; intro F₁ N₁)
    have N' : News h₀ L s₁.heap ((51, tabObj ps) :: offG L' nw) := fun p hp => by
      rcases List.mem_cons.mp hp with rfl | hp
      · exact ⟨hps, (N _ hmP).2⟩
      · exact N₁ p hp
    (refine feed (led_grow F₁ N' hk) ?_; refine x0_2 ?_; intro F₂ N₂)
    have es : ({ s₁.setGen 0 .finished with heap := h' } : Shared) = ⟨h', #[.finished], s.drawn, s₁.toks, s.os⟩ := by
      have e1 : s₁.gens = #[.running] := g1.trans (sg _)
      cases s₁
      dsimp only at g2 g3 e1
      subst e1
      show Shared.mk _ _ _ _ _ = _
      rw [g2, g3]; rfl
    rw [es]
    exact hP h0 h' s₁.toks _ ps F₂ N₂ (.head _) fun p hp hn => .tail _ (mem_offG.mpr ⟨hp, hn⟩)
end
end Law7
section Law8
section
variable {w : World} {A A₀ : Around} {base : Heap} {outer : List Env} {E : Value → Shared → Prop} {Q : Flow → Shared → Prop} {s : Shared} {env : Env} {g : Heap}
/-- the end of a turn of a loop along a generator -/
noncomputable def GPost (A₀ : Around) (base : Heap) (outer : List Env) (g : Heap) (L : Addr) (J : Nat → (Str → Option Value) → Led → Array GenState → Prop) (n : Nat) (Q : Flow → Shared → Prop) (s₁ : Shared) (f : Flow) (s₂ : Shared) : Prop :=
  match f with
  | .ret v => Q (.ret v) s₂
  | .brk => Q .next s₂
  | _ => ∃ g' h' gens' tk nw' m' n', s₂ = ⟨h', gens', s₁.drawn, tk, s₁.os⟩ ∧ TurnS A₀ base outer g g' ∧ Fr g' L h' m' ∧ News g' L h' nw' ∧ n' < n ∧ J n' m' nw' gens'
theorem For_G {target : Expr} {it : Value} {body orelse : List Stmt} {m₀ : Str → Option Value} {nw : Led} (J : Nat → (Str → Option Value) → Led → Array GenState → Prop) (n₀ : Nat)
    (T : TurnS A₀ base outer g g) (F : Fr g env.locals s.heap m₀) (N : News g env.locals s.heap nw) (hJ : J n₀ m₀ nw s.gens)
    (turn : ∀ n g' m₁ nw₁ h₁ gens₁ tk₁, TurnS A₀ base outer g g' → Fr g' env.locals h₁ m₁ → News g' env.locals h₁ nw₁ → J n m₁ nw₁ gens₁ →
      wpAny (model prog w) A (pyNext it) (fun r s₁ => match r with
        | none => wpAny (model prog w) A (execs orelse env) Q E s₁
        | some v => wpAny (model prog w) A (letOwnedTupleGo target it v) (fun _ s₁' => wpAny (model prog w) A (assign target env v) (fun _ s₂ =>
            wpAny (model prog w) A (execs body env) (GPost A₀ base outer g env.locals J n Q s) E s₂) E s₁') E s₁) E ⟨h₁, gens₁, s.drawn, tk₁, s.os⟩)
    (hE : PassesOwn (model prog w) A env E := by passes_own) :
    codeAny (model prog w) A (.forLoop target it body orelse env) (fun r s' => match r with | .ok f => Q f s' | .error e => cameBackBy (model prog w) A env E e s') s := by
  refine codeAny_forLoop_any (fun n s' => ∃ g' h₁ gens₁ tk₁ m₁ nw₁, s' = ⟨h₁, gens₁, s.drawn, tk₁, s.os⟩ ∧ TurnS A₀ base outer g g' ∧ Fr g' env.locals h₁ m₁ ∧ News g' env.locals h₁ nw₁ ∧ J n m₁ nw₁ gens₁) ?_ n₀
    ⟨g, s.heap, s.gens, s.toks, m₀, nw, rfl, T, F, N, hJ⟩
  (intro n s'; refine x6_1 ?_; intro g' h₁ gens₁ tk₁ m₁ nw₁; refine x0_5 ?_; intro zz9; subst zz9; intro T₁ F₁ N₁ J₁)
  refine wpAny_mono (turn n g' m₁ nw₁ h₁ gens₁ tk₁ T₁ F₁ N₁ J₁) (fun r s₂ h₂ => ?_) hE
  cases r with
  | none => exact wpAny_passesOwn hE h₂
  | some v =>
    refine wpAny_mono h₂ (fun _ s₃ h₃ => wpAny_mono h₃ (fun _ s₄ h₄ => wpAny_mono h₄ (fun f s₅ h₅ => ?_) hE) hE) hE
    have fin : GPost A₀ base outer g env.locals J n Q s .next s₅ → ∃ m, m < n ∧ ∃ g' h₁ gens₁ tk₁ m₁ nw₁, s₅ = ⟨h₁, gens₁, s.drawn, tk₁, s.os⟩ ∧ TurnS A₀ base outer g g' ∧ Fr g' env.locals h₁ m₁ ∧ News g' env.locals h₁ nw₁ ∧ J m m₁ nw₁ gens₁ := by
      (refine x7_1 ?_; intro g'' h' gens' tk nw' m' n'; refine x0_6 ?_; intro e b1 b2 b3 b4 b5)
      exact ⟨n', b4, g'', h', gens', tk, m', nw', e, b1, b2, b3, b5⟩
    cases f with
    | ret v => exact h₅
    | brk => exact h₅
    | next => exact fin h₅
    | cont => exact fin h₅
variable {P : Shared → Prop} {m : Str → Option Value} {nw : Led}
theorem letGo_gen {elts : List Expr} {x1} {pos : Pos} {I tp : Addr} {o : Obj} {Q : Unit → Shared → Prop} {k : Nat} (ho : s.heap.get? I = some o) (hG : GenO k o) (h : Q () s) : wpAny (model prog w) A (letOwnedTupleGo (.Tuple elts x1 pos) (.ref I) (.ref tp)) Q E s := by
  (refine feed (hG.dat) ?_; refine x2_1 ?_; intro nm qn hd)
  unfold letOwnedTupleGo
  refine wpAny_bind (wpAny_load ho ?_)
  rw [hG.cls, hd]
  exact wpAny_pure h
theorem assign_three {t : Addr} {x y z : Str} {px py pz pt : Pos} {x1} {u v r : Value} (hh : A.handled = none) (hx : env.kindOf x = some .local) (hy : env.kindOf y = some .local) (hz : env.kindOf z = some .local) (hp : (env.scope.kind == .class || (env.scope.kind == .module && env.locals != env.globals)) = false)
    (ht : s.heap.IsTuple t #[u, v, r]) (F : Fr g env.locals s.heap m) (N : News g env.locals s.heap nw)
    (h : ∀ h' tk, Fr g env.locals h' (fun q => if q = z then some r else if q = y then some v else if q = x then some u else m q) → News g env.locals h' nw → P { s with heap := h', toks := tk }) :
    wpAny (model prog w) A (assign (.Tuple [.Name x px, .Name y py, .Name z pz] x1 pt) env (.ref t)) (fun _ s₂ => P s₂) E s := by
  refine wpAny_assign_Tuple hh ht rfl rfl fun h₁ hx₁ => ?_
  replace hx₁ : Heap.ExtBut s.heap.objs.size s.heap h₁ := hx₁
  have up : ∀ b o, s.heap.get? b = some o → h₁.get? b = some o := fun b o e => hx₁ b o (Nat.ne_of_lt (Heap.lt_size e)) e
  (refine feed (led_grow F N up) ?_; refine x0_2 ?_; intro F₁ N₁)
  show wpAny _ _ (do holding [v, r] (assign (.Name x px) env u); do holding [r] (assign (.Name y py) env v); do holding [] (assign (.Name z pz) env r); pure ()) _ _ _
  refine wpAny_bind (wpAny_holding (wpAny_assign_Name (wpAny_storeName_local hx F₁.ns (fun h₂ hn₂ hs₂ => ?_) hp)))
  replace hs₂ : Heap.SameBut env.locals h₁ h₂ := hs₂
  have F₂ := F₁.set hn₂ hs₂
  have N₂ := N₁.set hs₂
  refine wpAny_bind (wpAny_holding (wpAny_assign_Name (wpAny_storeName_local hy F₂.ns (fun h₃ hn₃ hs₃ => ?_) hp)))
  replace hs₃ : Heap.SameBut env.locals h₂ h₃ := hs₃
  have F₃ := F₂.set hn₃ hs₃
  refine wpAny_bind (wpAny_holding (wpAny_assign_Name (wpAny_storeName_local hz F₃.ns (fun h₄ hn₄ hs₄ => wpAny_pure ?_) hp)))
  replace hs₄ : Heap.SameBut env.locals h₃ h₄ := hs₄
  exact h h₄ _ (F₃.set hn₄ hs₄) ((N₂.set hs₃).set hs₄)
end
theorem rws_level {b : Nat} : ∀ n k S E, ∀ r ∈ rws b n k S E, r.2.2 ≤ k + n
  | 0, k, S, E, r, h => by
    have : r = (S, E, k) := by simpa [rws] using h
    rw [this]; exact Nat.le_refl _
  | n + 1, k, S, E, r, h => by
    rw [rws] at h
    split at h
    · have : r = (S, E, k) := by simpa using h
      rw [this]; exact Nat.le_add_right _ _
    · rcases List.mem_append.mp h with h | h
      · split at h
        · cases h
        · rw [List.mem_singleton.mp h]; exact Nat.le_add_right _ _
      · rcases List.mem_append.mp h with h | h
        · split at h
          · cases h
          · rw [List.mem_singleton.mp h]; exact Nat.le_add_right _ _
        · have := rws_level n (k + 1) _ _ r h
          lia
theorem rws_len {b : Nat} : ∀ n k S E, (rws b n k S E).length ≤ 2 * n + 1
  | 0, k, S, E => Nat.le_refl _
  | n + 1, k, S, E => by
    rw [rws]
    split
    · simp
    · have := rws_len (b := b) n (k + 1) ((S + b - 1) / b) ((E + 1) / b - 1)
      rw [List.length_append, List.length_append]
      split <;> split <;> simp <;> lia
theorem PostsAt.off {w : World} {nw0 l l' : Led} {dp : Addr} {Z : List Addr} {T : Nat → Nat → List Nat} {done : List (Nat × Nat)} {o : Obj} {ps : List (List Nat × Addr)} (P : PostsAt w nw0 dp T done l o ps) (hs : ∀ p ∈ l, p.1 ∉ Z → p ∈ l') (h1 : dp ∉ Z) (h2 : ∀ p ∈ ps, p.2 ∉ Z) (h3 : ∀ q ∈ nw0, q.1 ∉ Z) : PostsAt w nw0 dp T done l' o ps :=
  ⟨hs _ P.mem h1, P.dict, P.nodup, P.knodup, P.keys, fun p hp => let ⟨vs, c, d1, d2⟩ := P.docs p hp; ⟨vs, c, hs _ d1 (h2 p hp), d2⟩, fun q hq => let ⟨a1, a2⟩ := P.old q hq; ⟨hs _ a1 (h3 q hq), a2⟩, P.lo, P.len⟩
theorem GenI.mono {w : World} {base : Heap} {A : Around} {fr : List Env} {L' : Nat} {R : List (Nat × Nat × Nat)} {st n : Nat} {nw nw' : Led} {gens : Array GenState} {ol : Addr} (I : GenI w base A fr L' R st nw gens n) (hs : ∀ p ∈ nw, p.1 ≠ ol → p ∈ nw') (h1 : ol < L') (h2 : ol ≠ 51) : GenI w base A fr L' R st nw' gens n := by
  (revert I; refine x5_1 ?_; intro gs oF oC psT ex; refine x0_8 ?_; intro a1 a2 a3 a4 a5 a6 a7 a8)
  exact y5_1 gs oF oC psT ex (ya8 a1 (hs _ a2 (Nat.ne_of_gt h1)) a3 (hs _ a4 (Nat.ne_of_gt (Nat.lt_succ_of_lt h1))) a5 (hs _ a6 h2.symm) (fun p hp => ⟨hs _ (a7 p hp).1 (Nat.ne_of_gt (Nat.lt_of_lt_of_le h1 (a7 p hp).2.1)), (a7 p hp).2⟩) a8)
/-- a list of the ledger is none of the generator's own objects -/
theorem GenI.list {w : World} {base : Heap} {A : Around} {fr : List Env} {L' : Nat} {R : List (Nat × Nat × Nat)} {st n : Nat} {nw : Led} {gens : Array GenState} {h₀ h : Heap} {L a : Addr} {its : Array Value} {c : Nat} (I : GenI w base A fr L' R st nw gens n) (N : News h₀ L h nw) (hm : (a, listOf its c) ∈ nw) : a ∉ ([L', L' + 1, 51] : List Addr) := by
  (revert I; refine x5_1 ?_; intro gs oF oC psT ex; refine x0_8 ?_; intro a1 a2; refine x2_1 ?_; intro es k a3; intro a4; refine x1_1 ?_; intro v a5; intro a6 a7 a8)
  intro h
  simp only [List.mem_cons, List.not_mem_nil, or_false] at h
  rcases h with rfl | rfl | rfl
  · have := same_at N hm a2
    rw [← this] at a3; cases a3
  · have := same_at N hm a4
    rw [← this] at a5; cases a5
  · have := same_at N hm a6
    cases this
theorem BookAt.gen {w : World} {L' : Nat} {nw nw' : Led} {G : Ads} {b : Bld} {av : List Addr} (Bk : BookAt w nw G b av) (hs : ∀ p ∈ nw, p.1 ∉ ([L', L' + 1, 51] : List Addr) → p ∈ nw') (h1 : ∀ z ∈ ([L', L' + 1, 51] : List Addr), z ∈ av ∧ z ∉ G.six) (h2 : ∀ z ∈ ([L', L' + 1, 51] : List Addr), ∃ o, (z, o) ∈ nw') : BookAt w nw' G b av :=
  ⟨Bk.S.mono fun p hp hc => hs p hp fun hz => hc.elim (fun h => (h1 _ hz).2 h) fun h => h.2 (h1 _ hz).1, fun z hz => by
    by_cases hq : z ∈ ([L', L' + 1, 51] : List Addr)
    · exact h2 z hq
    · (refine feed (Bk.hav z hz) ?_; refine x1_1 ?_; intro o ho)
      exact y1_1 o (hs _ ho hq), Bk.good, Bk.hsm, Bk.htg⟩
end Law8
section Law9
noncomputable def ls13s : {x : Stmt // x = lsAt 13} := ⟨_, by conv => rhs; whnf⟩
noncomputable def rowF (z st : Nat) (ts : List (List Nat)) (T : Nat → Nat → List Nat) (done : List (Nat × Nat)) (r : Nat × Nat × Nat) : List Nat := (ts.filter fun x => decide (¬ x < rowT z st r.2.2 r.1) && decide (¬ rowT z st r.2.2 r.2.1 < x)).flatMap (docsN T done)
theorem rowF_len {z st : Nat} {ts : List (List Nat)} {T : Nat → Nat → List Nat} {done : List (Nat × Nat)} (h : ts.Nodup) (hd : done.length ≤ 40) : ∀ l : List (Nat × Nat × Nat), (l.flatMap (rowF z st ts T done)).length ≤ 40 * l.length
  | [] => Nat.le_refl _
  | r :: l => by
    have h1 := rowF_len (z := z) (st := st) (T := T) h hd l
    have h2 : (rowF z st ts T done r).length ≤ done.length := flat_le T done (h.filter _)
    rw [List.flatMap_cons, List.length_append, List.length_cons]
    lia
noncomputable abbrev looseR : List Str := [Str.ofString "first", "last", "shift", "behind", "term", "found"]
noncomputable def RowsJ (w : World) (base : Heap) (A : Around) (fr : List Env) (L' : Nat) (R : List (Nat × Nat × Nat)) (z st : Nat) (nw0 : Led) (dp : Addr) (T : Nat → Nat → List Nat) (done : List (Nat × Nat)) (o : Obj) (ps : List (List Nat × Addr)) (G : Ads) (b : Bld) (av : List Addr) (gA : Addr) (oG : Obj) (ts : List (List Nat)) (m₀ : Str → Option Value)
    (n : Nat) (m₁ : Str → Option Value) (l : Led) (gens : Array GenState) : Prop :=
  n ≤ R.length ∧ GenI w base A fr L' R st l gens n ∧ PostsAt w nw0 dp T done l o ps ∧ BookAt w l G b av ∧ (gA, oG) ∈ l ∧ (∃ fl fvs c, m₁ (Str.ofString "found") = some (.ref fl) ∧ (fl, listOf (List.toArray fvs) c) ∈ l ∧ IntsAre fvs (((R.take (R.length - n)).flatMap (rowF z st ts T done)).map Nat.cast)) ∧ ∀ y, y ∉ looseR → m₁ y = m₀ y
section
variable {w : World} {A A₀ : Around} {base : Heap} {outer : List Env} {s : Shared} {h₀ : Heap} {L fa : Addr} {cd : Value} {m : Str → Option Value} {nw : Led} {E : Value → Shared → Prop} {Q : Flow → Shared → Prop} {t1 t2 t3 t4 : Tok}
section
local macro_rules | `(tactic| walk_at $s:str) => do
  let k := Lean.Syntax.mkStrLit ("L16:" ++ s.getString)
  `(tactic| k_extra $k)
local macro_rules | `(tactic| walk_at "zz") => `(tactic| skip)
theorem law_s13 (C : LawC w A A₀ base outer h₀ L fa cd) (CH : CodeHd base 55 51) (h51L : (51 : Nat) < L) (F : Fr h₀ L s.heap m) (N : News h₀ L s.heap nw) (hg : s.gens = #[]) {nw0 : Led} {dp : Addr} {T : Nat → Nat → List Nat} {done : List (Nat × Nat)} {o : Obj} {ps : List (List Nat × Addr)} (P : PostsAt w nw0 dp T done nw o ps) {G : Ads} {b : Bld} {av : List Addr} (Bk : BookAt w nw G b av)
    (h51 : (51, tabObj #[]) ∈ nw) (h51a : (51 : Addr) ∈ av) (h51s : (51 : Addr) ∉ G.six) (h51P : dp ≠ 51 ∧ (∀ p ∈ ps, p.2 ≠ 51) ∧ ∀ q ∈ nw0, q.1 ≠ 51)
    (hacc : ∀ x, b.aut.Acc 0 x ↔ x ∈ ps.map (·.1)) {ts : List (List Nat)} (hts : ts.Pairwise (· < ·)) (htm : ∀ x, x ∈ ts ↔ x ∈ ps.map (·.1)) (htn : ∀ t ∈ ts, t.length ≤ 12 ∧ ∀ c ∈ t, c < 128) (hol : dp ≠ G.ol ∧ (∀ p ∈ ps, p.2 ≠ G.ol) ∧ ∀ q ∈ nw0, q.1 ≠ G.ol)
    {fl : Addr} (hfl : (fl, listOf #[] 0) ∈ nw) (hdone : done.length ≤ 40) {z st a b' : Nat} {ta tb : Tok} {o1 o2 : Obj} (hc1 : (L + 1, o1) ∈ nw) (hd1 : o1.data = .cell (some (.int a ta))) (hc2 : (L + 1 + 1, o2) ∈ nw) (hd2 : o2.data = .cell (some (.int b' tb))) (kz : KindOk z st) (hab : a ≤ b') (hbz : b' < 2 ^ z) (hbk : 2 ^ (kN z st * st) ≤ b')
    (mz : m (Str.ofString "size") = some (.int (z : Nat) t1)) (mt : m (Str.ofString "step") = some (.int (st : Nat) t2)) (m4 : m (Str.ofString "posts") = some (.ref dp)) (m5 : m (Str.ofString "book") = some (.ref G.x)) (m6 : m (Str.ofString "found") = some (.ref fl)) (hE : PassesOwn (model prog w) A (envL L fa cd) E)
    (h : ∀ h₀' h' tk' m' nw' fl' fvs' c' ps', TurnS A₀ base outer h₀ h₀' → Fr h₀' L h' m' → News h₀' L h' nw' → (51, tabObj ps') ∈ nw' → (∀ q ∈ nw0, q ∈ nw') → (fl', listOf (List.toArray fvs') c') ∈ nw' → IntsAre fvs' (((rws (2 ^ st) (kN z st) 0 a b').flatMap (rowF z st ts T done)).map Nat.cast) → m' (Str.ofString "found") = some (.ref fl') →
      (∀ y, y ∉ looseR → m' y = m y) → Q .next ⟨h', #[.finished], s.drawn, tk', s.os⟩) :
    wpAny (model prog w) A (exec ls13s.1 (envL L fa cd)) Q E s := by
  have hC := Stop.out C
  replace CH := Stop.out CH
  obtain ⟨B, X, ⟨lo, mean, mg, mb, Tp⟩, hA, hh, hd, hu, -, -, -⟩ := C
  have hnm : ∀ p ∈ [(Str.ofString "size", Value.int (z : Nat) t1), (Str.ofString "step", Value.int (st : Nat) t2)], m p.1 = some p.2 := by
    intro p hp
    simp only [List.mem_cons, List.not_mem_nil, or_false] at hp
    rcases hp with rfl | rfl
    · exact mz
    · exact mt
  replace F := fr_congr F (over_self hnm)
  dsimp only [over] at F
  dsimp only [ls13s, envL]
  k_with "L16:pyIter ref" => (refine stop_of ?_)
  k_with "L16:exec For Tuple Call cons nil" => (refine stop_of ?_)
  k_with "L16:call ref" => (k_here; (with_reducible show wpAny _ _ (call (Value.ref 56) _) _ _ _); refine stop_of ?_)
  refine fillIt ?_
  k_fill
  intro _
  w_strict (
    k_steps
    refine Stop.out ?_
    refine wpAny_For ?_
    k_steps
    refine Stop.out ?_
    refine wpAny_call ?_
    refine split_call (by assumption) X (by assumption) Tp (by lia) ?_
    intro L' h₁ tk₁ gA oF oG oC mm F₁ N₁ hns hFd hGO hoC q1 q2 q3 q4 lL' lnw lg
    dsimp only
    have C := stop_of hC
    have hGO0 : GenO 0 oG := by rw [hg] at hGO; exact hGO
    (refine feed (hGO0.dat) ?_; refine x2_1 ?_; intro nm qn hGd)
    refine wpAny_pyIter_gen (g := 0) ⟨oG, nm, qn, (N₁ _ (.head _)).1, hGO0.cls, hGd, hGO0.slots⟩ ?_
    (refine feed (kz.rows) ?_; refine x0_5 ?_; intro r1 r2 r3 _ _)
    have kb := kz.b
    have e0 : ∀ y, (fun y => if y = Str.ofString "size" then some (Value.int (z : Nat) t1) else if y = Str.ofString "step" then some (.int (st : Nat) t2) else m y) y = m y := fun y => (over_self hnm y).symm
    replace F₁ := fr_congr F₁ e0
    have z1 : ∀ q ∈ nw, q.1 ≠ L' ∧ q.1 ≠ L' + 1 := fun q hq => ⟨Nat.ne_of_lt (lnw q hq), Nat.ne_of_lt (Nat.lt_succ_of_lt (lnw q hq))⟩
    have zoff : ∀ q ∈ nw, q.1 ≠ 51 → q.1 ∉ ([L', L' + 1, 51] : List Addr) := fun q hq h5 hm => by
      simp only [List.mem_cons, List.not_mem_nil, or_false] at hm
      rcases hm with e | e | e
      · exact (z1 q hq).1 e
      · exact (z1 q hq).2 e
      · exact h5 e
    have o1' : dp ∉ ([L', L' + 1, 51] : List Addr) := zoff _ P.mem h51P.1
    have o2' : ∀ p ∈ ps, p.2 ∉ ([L', L' + 1, 51] : List Addr) := fun p hp => by
      (refine feed (P.docs p hp) ?_; refine x2_1 ?_; intro _ _; refine x0_2 ?_; intro d1 _)
      exact zoff _ d1 (h51P.2.1 p hp)
    have o3' : ∀ q ∈ nw0, q.1 ∉ ([L', L' + 1, 51] : List Addr) := fun q hq => zoff _ (P.old q hq).1 (h51P.2.2 q hq)
    have hsix : ∀ z ∈ ([L', L' + 1, 51] : List Addr), z ∈ L' :: (L' + 1) :: av ∧ z ∉ G.six := fun z hz => by
      simp only [List.mem_cons, List.not_mem_nil, or_false] at hz
      rcases hz with rfl | rfl | rfl
      · refine ⟨.head _, fun h => ?_⟩
        (refine feed (Bk.S.there _ h) ?_; refine x1_1 ?_; intro o ho)
        exact (z1 _ ho).1 rfl
      · refine ⟨.tail _ (.head _), fun h => ?_⟩
        (refine feed (Bk.S.there _ h) ?_; refine x1_1 ?_; intro o ho)
        exact (z1 _ ho).2 rfl
      · exact ⟨.tail _ (.tail _ h51a), h51s⟩
    have hols : G.ol ∈ G.six := by simp [Ads.six]
    have holL : G.ol < L' := by
      (refine feed (Bk.S.there _ hols) ?_; refine x1_1 ?_; intro o ho)
      exact lnw _ ho
    have hol5 : G.ol ≠ 51 := fun e => h51s (e ▸ hols)
    have hnd : ts.Nodup := List.Pairwise.imp (R := fun a b : List Nat => a < b) (fun {a b} h (e : a = b) => lt_irr b (by rw [e] at h; exact h)) hts
    generalize hR : rws (2 ^ st) (kN z st) 0 a b' = R at h
    have hRl : R.length ≤ 7 := by
      have := rws_len (b := 2 ^ st) (kN z st) 0 a b'
      rw [hR] at this; lia
    refine For_G (env := envL L fa cd) (s := ⟨h₁, s.gens.push (.fresh (.func b3 (envG L'))), s.drawn, tk₁, s.os⟩) (RowsJ w base A (envL L fa cd :: outer) L' R z st nw0 dp T done o ps G b (L' :: (L' + 1) :: av) gA oG ts m) R.length C.cxT F₁ N₁ ?hJ ?turn hE
    case hJ =>
      refine ⟨Nat.le_refl _, ⟨.fresh (.func b3 (envG L')), oF, oC, #[], [], by rw [hg]; rfl, .tail _ (.head _), hFd, .tail _ (.tail _ (.head _)), ⟨_, hoC⟩, .tail _ (.tail _ (.tail _ h51)), (fun _ h => nomatch h), fun s'' hGR => ⟨rfl, ?_⟩⟩, P.mono (fun p hp _ => .tail _ (.tail _ (.tail _ hp))) P.cls, ⟨?_, ?_, Bk.good, Bk.hsm, Bk.htg⟩, .head _, ⟨fl, [], 0, m6, .tail _ (.tail _ (.tail _ hfl)), ?_⟩, fun _ _ => rfl⟩
      · have gs := gen_start (nl := kN z st) (st := st) (size := z) (S := a) (E := b') hGR hns hA hh (by lia) (by lia) hoC kb.1 kb.2.1 kb.2.2.2.1 r2 r3 hab hbz (by rw [← Nat.pow_mul, Nat.mul_comm]; exact Nat.le_succ_of_le hbk) q1 q2 q3 q4
        rw [hR] at gs
        exact gs
      · exact ((Bk.S.more (z := L' + 1) fun p hp => (z1 p hp).2).more (z := L') fun p hp => (z1 p hp).1).mono fun p hp _ => .tail _ (.tail _ (.tail _ hp))
      · intro y hy
        rcases List.mem_cons.mp hy with rfl | hy
        · exact y1_1 _ (.tail _ (.head _))
        rcases List.mem_cons.mp hy with rfl | hy
        · exact y1_1 _ (.tail _ (.tail _ (.head _)))
        · (refine feed (Bk.hav y hy) ?_; refine x1_1 ?_; intro o ho)
          exact y1_1 o (.tail _ (.tail _ (.tail _ ho)))
      · rw [Nat.sub_self, List.take_zero]; exact .nil
    case turn =>
      (intro n g' m₁ nw₁ h₂ gens₂ tk₂ t₂ F₂ N₂; refine x0_7 ?_; intro hn I P₂ Bk₂ hG₂; refine x3_1 ?_; intro fl₂ fvs₂ c₂; refine x0_3 ?_; intro mf hfl₂ hf₂; intro hm₂)
      have C₂ := C.turn t₂
      (refine feed (C₂.T) ?_; refine x4_1 ?_; intro lo₂ mean₂ mg₂ mb₂ T₂)
      have hgA : gA ∉ ([L', L' + 1, 51] : List Addr) := fun hm => by
        simp only [List.mem_cons, List.not_mem_nil, or_false] at hm
        rcases hm with e | e | e
        · rw [e] at lg; exact absurd lg (Nat.not_lt.mpr (Nat.le_succ _))
        · rw [e] at lg; exact absurd lg (Nat.lt_irrefl _)
        · rw [e] at lg
          exact absurd (Nat.lt_trans (Nat.lt_trans h51L lL') (Nat.lt_of_succ_lt lg)) (Nat.lt_irrefl _)
      refine gen_next (env := envL L fa cd) (outer := outer) (s := ⟨h₂, gens₂, s.drawn, tk₂, s.os⟩) C₂.B C₂.X T₂ ((stop_of CH).keeps C₂.B.stays) F₂ N₂ hA rfl rfl hh hd lL' h51L hG₂ hGO0 I ?_ ?_
      · intro n' h₃ gens₃ tk₃ nw₃ tp row a1 a2 a3 en hrow F₃ N₃ hk₃ I₃ htup
        have hG₃ : (gA, oG) ∈ nw₃ := hk₃ _ hG₂ hgA
        have P₃ := P₂.off hk₃ o1' o2' o3'
        have Bk₃ := Bk₂.gen hk₃ hsix fun y hy => by
          (revert I₃; refine x5_1 ?_; intro gs oF₃ oC₃ ps₃ ex₃; refine x0_8 ?_; intro b1 b2 b3 b4 b5 b6 b7 b8)
          simp only [List.mem_cons, List.not_mem_nil, or_false] at hy
          rcases hy with rfl | rfl | rfl
          · exact y1_1 _ b2
          · exact y1_1 _ b4
          · exact y1_1 _ b6
        have hfl₃ := hk₃ _ hfl₂ (I.list N₂ hfl₂)
        dsimp only
        refine letGo_gen (N₃ _ hG₃).1 hGO0 ?_
        refine assign_three (env := envL L fa cd) (g := g') (nw := nw₃) hh rfl rfl rfl rfl htup F₃ N₃ fun h₄ tk₄ F₄ N₄ => ?_
        have hrl : row.2.2 ≤ kN z st := by
          have := rws_level (b := 2 ^ st) (kN z st) 0 a b' row (by rw [hR]; exact List.mem_of_getElem? hrow)
          lia
        have hks : row.2.2 * st ≤ 64 := by
          have := Nat.mul_le_mul_right st hrl
          lia
        have hf4 : ∀ y, y ∉ [Str.ofString "first", "last", "shift"] → (fun q => if q = Str.ofString "shift" then some (Value.int (rowI st row).2.2 a3) else if q = Str.ofString "last" then some (.int (rowI st row).2.1 a2) else if q = Str.ofString "first" then some (.int (rowI st row).1 a1) else m₁ q) y = m₁ y := fun y hy => by
          simp only [List.mem_cons, List.not_mem_nil, or_false, not_or] at hy
          show (if y = _ then _ else if y = _ then _ else if y = _ then _ else m₁ y) = m₁ y
          rw [if_neg hy.2.2, if_neg hy.2.1, if_neg hy.1]
        have hl3 : R.length - n < R.length := by lia
        have hflen : ((R.take (R.length - n)).flatMap (rowF z st ts T done)).length ≤ 1000 := by
          have h1 := rowF_len (z := z) (st := st) (T := T) (done := done) hnd hdone (R.take (R.length - n))
          rw [List.length_take] at h1
          lia
        show wpAny _ _ (execs [lr0s.1, lr1s.1, .While lwts.1 [lw0s.1, lw1s.1, lw2s.1] [] _] (envL L fa cd)) _ _ _
        refine law_row (s := ⟨h₄, gens₃, s.drawn, tk₄, s.os⟩) C₂ F₄ N₄ P₃ Bk₃ hacc hts htm htn hol hfl₃ hf₂ hflen hdone (z := z) (st := st) (k := row.2.2) (S := row.1) (S' := row.2.1) hks
          ((hf4 _ (by decide)).trans ((hm₂ _ (by decide)).trans mz)) rfl rfl rfl ((hf4 _ (by decide)).trans ((hm₂ _ (by decide)).trans m4)) ((hf4 _ (by decide)).trans ((hm₂ _ (by decide)).trans m5)) ((hf4 _ (by decide)).trans mf) hE
          fun h₀' h₅ tk₅ m₅ nw₅ fl₅ fvs₅ c₅ t₅ F₅ N₅ hk₅ Bk₅ hfl₅ hf₅ mf₅ hm₅ => ?_
        refine y7_1 h₀' h₅ gens₃ tk₅ nw₅ m₅ n' (ya12 rfl (t₂.trans t₅) F₅ N₅ (by lia) (by lia) (I₃.mono hk₅ holL hol5) (P₃.ol hk₅ hol.1 hol.2.1 hol.2.2) Bk₅ (hk₅ _ hG₃ (Nat.ne_of_gt (Nat.lt_trans holL (Nat.lt_of_succ_lt lg)))) ⟨fl₅, fvs₅, c₅, mf₅, hfl₅, ?_⟩ (fun y hy => ?_))
        · have e1 : R.length - n' = R.length - n + 1 := by lia
          rw [e1, List.take_add_one, hrow, List.flatMap_append]
          simp only [Option.toList_some, List.flatMap_cons, List.flatMap_nil, List.append_nil]
          exact hf₅
        · simp only [looseR, List.mem_cons, List.not_mem_nil, or_false, not_or] at hy
          refine (hm₅ y (by simp [hy.2.2.2.1, hy.2.2.2.2.1, hy.2.2.2.2.2])).trans ((hf4 y (by simp [hy.1, hy.2.1, hy.2.2.1])).trans (hm₂ y ?_))
          simp only [looseR, List.mem_cons, List.not_mem_nil, or_false, not_or]
          exact hy
      · intro hn0 h₃ tk₃ nw₃ ps₃ F₃ N₃ h51₃ hk₃
        dsimp only
        refine wpAny_execs_nil ?_
        refine h g' h₃ tk₃ m₁ nw₃ fl₂ fvs₂ c₂ ps₃ t₂ F₃ N₃ h51₃ (fun q hq => hk₃ _ (P₂.old q hq).1 (o3' q hq)) (hk₃ _ hfl₂ (I.list N₂ hfl₂)) ?_ mf hm₂
        rw [hn0, Nat.sub_zero, List.take_length] at hf₂
        exact hf₂)
end
end
end Law9
section Law10
noncomputable def ls14s : {x : Stmt // x = lsAt 14} := ⟨_, by conv => rhs; whnf⟩
noncomputable def lcE : PySem.Expr := match lsAt 14 with
  | .Return (some (PySem.Expr.Compare _ _ (c :: _) _)) _ => c
  | _ => default
noncomputable def lcts : {x : PySem.Expr // x = (match lcE with | .ListComp _ (⟨_, _, c :: _, _⟩ :: _) _ _ => c | _ => default)} := ⟨_, by conv => rhs; whnf⟩
noncomputable def lces : {x : PySem.Expr // x = (match lcE with | .ListComp e _ _ _ => e | _ => default)} := ⟨_, by conv => rhs; whnf⟩
noncomputable def lcss : {x : Scope // x = (match lcE with | .ListComp _ _ c _ => c | _ => default)} := ⟨_, by conv => rhs; whnf⟩
noncomputable abbrev lcl (L : Nat) : List (Str × Addr) := [(Str.ofString "numbers", L + 1 + 1 + 1), (Str.ofString "low", L + 1), (Str.ofString "high", L + 1 + 1)]
section
variable {w : World} {A A₀ : Around} {base : Heap} {outer : List Env} {s : Shared} {h₀ : Heap} {L fa : Addr} {cd : Value} {m : Str → Option Value} {nw : Led} {E : Value → Shared → Prop} {t1 t2 t3 t4 : Tok}
section
local macro_rules | `(tactic| walk_at $s:str) => do
  let k := Lean.Syntax.mkStrLit ("L17:" ++ s.getString)
  `(tactic| k_extra $k)
theorem comp_test {C : Addr} {m₂ : Str → Option Value} {Q : Bool → Shared → Prop} {a b i x : Nat} {ta tb tx td : Tok} {o1 o2 o3 : Obj} {ln : Addr} {vsn : List Value} {cn : Nat} (hh : A.handled = none) (N : News h₀ L s.heap nw) (hn : s.heap.Ns C m₂) (hdoc : m₂ (Str.ofString "document") = some (.int (i : Nat) td))
    (hc1 : (L + 1, o1) ∈ nw) (hd1 : o1.data = .cell (some (.int a ta))) (hc2 : (L + 1 + 1, o2) ∈ nw) (hd2 : o2.data = .cell (some (.int b tb))) (hc3 : (L + 1 + 1 + 1, o3) ∈ nw) (hd3 : o3.data = .cell (some (.ref ln))) (hln : (ln, listOf (List.toArray vsn) cn) ∈ nw) (hi : i < vsn.length) (hz : vsn.length < 1000) (hv : vsn.getD i .none = .int x tx)
    (h : ∀ tk, Q (decide (a ≤ x) && decide (x ≤ b)) ⟨s.heap, s.gens, s.drawn, tk, s.os⟩) :
    wpAny (model prog w) A (isTrue lcts.1 (compEnvC lcss.1 (lcl L) C (envL L fa cd)) (eval lcts.1 (compEnvC lcss.1 (lcl L) C (envL L fa cd)))) Q E s := by
  dsimp only [lcts]
  k_with "L17:eval Name" => (refine stop_of ?_)
  k_with "L17:subscriptTail Name Name ref int" => (refine stop_of ?_)
  k_steps
  refine Stop.out ?_
  refine lcf_cell N rfl hc1 hd1 ?_ rfl rfl
  k_steps
  refine Stop.out ?_
  refine lcf_cell N rfl hc3 hd3 ?_ rfl rfl
  k_steps
  refine Stop.out ?_
  refine wpAny_Name (wpAny_loadName_local rfl rfl hn hdoc ?_) (by decide)
  k_steps
  refine Stop.out ?_
  refine sub_list_M N hln (by lia) hz ?_
  rw [hv]
  k_steps
  · rename ((a : Int) ≤ (x : Int)) => c1
    have c1' : a ≤ x := by lia
    refine Stop.out ?_
    refine lcf_cell N rfl hc2 hd2 ?_ rfl rfl
    have e : decide (x ≤ b) = decide ((x : Int) ≤ (b : Int)) := decide_eq_decide.mpr (by lia)
    have z := h s.toks
    rw [decide_eq_true c1', Bool.true_and, e] at z
    clear h
    k_steps
    exact z
  · rename (¬ (a : Int) ≤ (x : Int)) => c1
    have c1' : ¬ a ≤ x := by lia
    have z := h s.toks
    rw [decide_eq_false c1', Bool.false_and] at z
    exact z
end
theorem comp_rest {x : Str} {a b n : Nat} {ta tb : Tok} {o1 o2 o3 : Obj} {ln : Addr} {vsn : List Value} {cn : Nat} {xs : List Nat} {Fin : List Value → List (Addr × Obj) → Prop} (hx : x = Str.ofString "document") (hh : A.handled = none)
    (hc1 : (L + 1, o1) ∈ nw) (hd1 : o1.data = .cell (some (.int a ta))) (hc2 : (L + 1 + 1, o2) ∈ nw) (hd2 : o2.data = .cell (some (.int b tb))) (hc3 : (L + 1 + 1 + 1, o3) ∈ nw) (hd3 : o3.data = .cell (some (.ref ln))) (hln : (ln, listOf (List.toArray vsn) cn) ∈ nw) (hz : vsn.length < 1000) (hl : vsn.length = n)
    (hv : ∀ i, i < n → ∃ tx, vsn.getD i .none = .int (xs.getD i 0 : Nat) tx) :
    ∀ (k i : Nat) (ys : List Value), k + i = n → (∀ ys', (IntsAre ys (((List.range i).filter fun d => decide (a ≤ xs.getD d 0) && decide (xs.getD d 0 ≤ b)).map Nat.cast) → IntsAre ys' (((List.range n).filter fun d => decide (a ≤ xs.getD d 0) && decide (xs.getD d 0 ≤ b)).map Nat.cast)) → Fin ys' nw) →
      LCt.CompRestT prog w A h₀ L m (envL L fa cd) lcts.1 lces.1 x lcss.1 (lcl L) s (fun _ => True) (fun i v => ∃ t, v = .int ((0 : Int) + (i : Int)) t) Fin k i ys nw := by
  subst hx
  intro k
  induction k with
  | zero =>
    intro i ys e h
    refine LCt.CompRestT.zero (h ys fun hy => ?_)
    rw [Nat.zero_add] at e
    rw [← e]; exact hy
  | succ k ih =>
    intro i ys e h
    refine LCt.CompRestT.succ fun v I oI C oC D m₂ hp tk E' hP hO hm F N off hne => ?_
    (revert hP; refine x1_1 ?_; intro t; intro zz9; subst zz9)
    rw [Int.zero_add] at hm
    have hn : hp.Ns C m₂ := hO.ns (N _ (.tail _ (.head _))).1
    (refine feed (hv i (by lia)) ?_; refine x1_1 ?_; intro tx htx)
    refine comp_test (s := { s with heap := hp, toks := tk }) hh N hn hm (.tail _ (.tail _ (.tail _ hc1))) hd1 (.tail _ (.tail _ (.tail _ hc2))) hd2 (.tail _ (.tail _ (.tail _ hc3))) hd3 (.tail _ (.tail _ (.tail _ hln))) (by lia) hz htx fun tk' => ?_
    have hr : ((List.range (i + 1)).filter fun d => decide (a ≤ xs.getD d 0) && decide (xs.getD d 0 ≤ b)) = ((List.range i).filter fun d => decide (a ≤ xs.getD d 0) && decide (xs.getD d 0 ≤ b)) ++ if (decide (a ≤ xs.getD i 0) && decide (xs.getD i 0 ≤ b)) = true then [i] else [] := by
      rw [List.range_succ, List.filter_append]
      congr 1
      rw [List.filter_cons, List.filter_nil]
    cases hb : (decide (a ≤ xs.getD i 0) && decide (xs.getD i 0 ≤ b)) with
    | true =>
      rw [if_pos rfl]
      show wpAny _ _ (eval (.Name (Str.ofString "document") _) _) _ _ _
      refine wpAny_Name (wpAny_loadName_local rfl rfl hn hm ?_) (by decide)
      refine LCg.CompEnd.intro F N nw (fun p hp => hp) off trivial (ih (i + 1) _ (by lia) fun ys' hy' => h ys' fun hy => hy' ?_)
      rw [hr, hb, if_pos rfl, List.map_append]
      exact ints_snoc hy _ _
    | false =>
      rw [if_neg Bool.false_ne_true]
      refine LCg.CompEnd.intro F N nw (fun p hp => hp) off trivial (ih (i + 1) _ (by lia) fun ys' hy' => h ys' fun hy => hy' ?_)
      rw [hr, hb, if_neg Bool.false_ne_true, List.append_nil]
      exact hy
section
local macro_rules | `(tactic| walk_at $s:str) => do
  let k := Lean.Syntax.mkStrLit ("L18:" ++ s.getString)
  `(tactic| k_extra $k)
local macro_rules | `(tactic| walk_at "zz") => `(tactic| skip)
theorem law_s14 {Q : Flow → Shared → Prop} (C : LawC w A A₀ base outer h₀ L fa cd) (F : Fr h₀ L s.heap m) (N : News h₀ L s.heap nw) {a b : Nat} {ta tb : Tok} {o1 o2 o3 : Obj} {ln fl : Addr} {vsn fvs : List Value} {cn cf : Nat} {xs fs : List Nat} (mf : m (Str.ofString "found") = some (.ref fl))
    (hc1 : (L + 1, o1) ∈ nw) (hd1 : o1.data = .cell (some (.int a ta))) (hc2 : (L + 1 + 1, o2) ∈ nw) (hd2 : o2.data = .cell (some (.int b tb))) (hc3 : (L + 1 + 1 + 1, o3) ∈ nw) (hd3 : o3.data = .cell (some (.ref ln))) (hln : (ln, listOf (List.toArray vsn) cn) ∈ nw) (hI : IntsAre vsn (xs.map Nat.cast)) (hx6 : xs.length ≤ 6)
    (hfl : (fl, listOf (List.toArray fvs) cf) ∈ nw) (hf : IntsAre fvs (fs.map Nat.cast)) (hperm : fs.Perm ((List.range xs.length).filter fun d => decide (a ≤ xs.getD d 0) && decide (xs.getD d 0 ≤ b)))
    (h : ∀ h' tk' nw', Fr h₀ L h' m → News h₀ L h' nw' → (∀ p ∈ nw, p ∈ nw') → Q (.ret (.bool true)) ⟨h', s.gens, s.drawn, tk', s.os⟩) :
    wpAny (model prog w) A (exec ls14s.1 (envL L fa cd)) Q E s := by
  obtain ⟨B, X, ⟨lo, mean, mg, mb, T⟩, hA, hh, hd, hu, -, -, -⟩ := C
  have hnm : ∀ p ∈ [(Str.ofString "found", Value.ref fl)], m p.1 = some p.2 := by
    intro p hp
    simp only [List.mem_cons, List.not_mem_nil, or_false] at hp
    subst hp; exact mf
  replace F := fr_congr F (over_self hnm)
  dsimp only [over] at F
  dsimp only [ls14s, envL]
  k_with "L18:call builtin:sorted" => (k_here; refine stop_of ?_)
  k_with "L18:call builtin:len" => (k_here; (with_reducible show wpAny _ _ (call (Value.builtin "len") [Value.ref _]) _ _ _); refine stop_of ?_)
  k_with "L18:call type:range" => (refine stop_of ?_)
  k_with "L18:eval ListComp" => (refine stop_of ?_)
  k_with "L18:compareOp Eq ref ref" => (refine stop_of ?_)
  refine fillIt ?_
  k_fill
  intro _
  w_strict (
    k_steps
    refine Stop.out ?_
    have hlen : fs.length ≤ 6 := by
      rw [hperm.length_eq]
      exact Nat.le_trans (List.length_filter_le _ _) (by rw [List.length_range]; exact hx6)
    refine PyProof.Rows.sorted_N F N (News.isList N hfl) hf (by rw [hf.length, List.length_map]; lia) ?_
    intro h₁ vs₁ ns₁ e₁ F₁ N₁ hI₁ hP₁ hS₁
    have hns : ns₁ = ((List.range xs.length).filter fun d => decide (a ≤ xs.getD d 0) && decide (xs.getD d 0 ≤ b)).map Nat.cast := by
      refine List.Perm.eq_of_pairwise (le := (· ≤ ·)) (fun x y _ _ h1 h2 => Int.le_antisymm h1 h2) hS₁ ?_ (hP₁.trans (hperm.map _))
      rw [List.pairwise_map]
      exact (List.pairwise_lt_range.filter _).imp fun h => by lia
    have hvl : vsn.length = xs.length := by rw [hI.length, List.length_map]
    have hz1 : vsn.length < 1000 := by lia
    have hvals : Stop (∀ i, i < xs.length → ∃ tx, vsn.getD i .none = .int ((xs.getD i 0 : Nat) : Int) tx) := by
      refine Stop.out fun i hi => ?_
      have e1 : (xs.map (Nat.cast (R := Int)))[i]? = some ((xs.getD i 0 : Nat) : Int) := by
        rw [List.getElem?_map, List.getD_eq_getElem?_getD, List.getElem?_eq_getElem hi]; rfl
      (refine feed (hI.get i _ e1) ?_; refine x1_1 ?_; intro tx e2)
      exact y1_1 tx (by rw [List.getD_eq_getElem?_getD, e2]; rfl)
    have hI₁' := Stop.out hI₁
    clear hP₁ hS₁ hI₁ F N
    (try dsimp only)
    generalize s.heap.objs.size + 1 = B1 at N₁ ⊢
    have hq3 : (L + 1 + 1 + 1, o3) ∈ (B1, seqObj "list" vs₁.toArray e₁) :: nw := .tail _ hc3
    have hqn : (ln, listOf (List.toArray vsn) cn) ∈ (B1, seqObj "list" vs₁.toArray e₁) :: nw := .tail _ hln
    k_steps
    refine Stop.out ?_
    refine LCt.ListComp_T (F₀ := F₁) (cl := lcl L) (by with_unfolding_all rfl) (by decide) rfl (by decide) rfl ?_
    k_steps
    refine Stop.out ?_
    refine len_list_M N₁ hqn hz1 ?_
    intro tq tkq
    k_steps
    refine Stop.out ?_
    rw [hvl]
    refine call_range_1 ?_
    dsimp only
    have r6 := range_six hx6
    have N₂ : News h₀ L (h₁.push { cls := .type "range", data := .fields #[.int 0 tkq, .int xs.length tq, .int 1 (tkq + 1)] }) ((B1, seqObj "list" vs₁.toArray e₁) :: nw) := fun p hp => ⟨Heap.get?_push_of_some _ (N₁ p hp).1, (N₁ p hp).2⟩
    refine LCt.CompSrcT.range hh (F₁.push _) N₂ (Heap.get?_push_size _ rfl) r6.1 r6.2 (Nat.le_trans hx6 (by decide)) fun g => comp_rest (xs := xs) (n := xs.length) rfl hh (.tail _ hc1) hd1 (.tail _ hc2) hd2 hq3 hd3 hqn hz1 hvl (stop_of hvals) xs.length 0 [] rfl fun ys' hy => ?_
    intro D h₃ tk₃ F₃ N₃ off₃
    have hy' := hy .nil
    refine eq_intsK (News.isList (n := e₁) N₃ (.tail _ (.head _))) (stop_of hI₁') (News.isList (n := ys'.length) N₃ (.head _)) hy' (by refine Nat.lt_of_le_of_lt (Nat.add_le_add_right hu 64) ?_; decide) ?_
    rw [decide_eq_true hns]
    exact h _ _ _ (fr_congr F₃ fun y => (over_self hnm y).symm) N₃ fun p hp => .tail _ (.tail _ hp))
end
end
end Law10
section PureD
theorem tl_lt {W sh sh' v v' : Nat} (h : v < 85 ^ W) (h' : v' < 85 ^ W) : ((33 + sh) :: digs W v []) < ((33 + sh') :: digs W v' []) ↔ sh < sh' ∨ sh = sh' ∧ v < v' := by
  rw [List.cons_lt_cons_iff, digs_lt _ h h']
  lia
theorem rws_le {b : Nat} (hb : 1 < b) : ∀ n k S E, S ≤ E → ∀ r ∈ rws b n k S E, r.1 ≤ E ∧ r.2.1 ≤ E
  | 0, k, S, E, hSE, r, h => by
    have : r = (S, E, k) := by simpa [rws] using h
    rw [this]; exact ⟨hSE, Nat.le_refl _⟩
  | n + 1, k, S, E, hSE, r, h => by
    rw [rws] at h
    split at h
    · have : r = (S, E, k) := by simpa using h
      rw [this]; exact ⟨hSE, Nat.le_refl _⟩
    · rename_i hlt
      have hS := up_div (S := S) hb
      have hE := succ_div (E := E) hb
      have d1 := Nat.div_add_mod' S b
      have d2 := Nat.div_add_mod' E b
      have hle : (E + 1) / b ≤ E + 1 := Nat.div_le_self _ _
      have hq : S / b < (E + 1) / b := by
        have hqs : S / b ≤ (S + b - 1) / b := by rw [hS]; split <;> lia
        lia
      have hSb : S / b * b + b ≤ E + 1 := by
        have h1 := Nat.mul_le_mul_right b hq
        have h2 := Nat.div_mul_le_self (E + 1) b
        rw [Nat.succ_mul] at h1
        lia
      rcases List.mem_append.mp h with h | h
      · split at h
        · cases h
        · rw [List.mem_singleton.mp h]
          exact ⟨hSE, by show S / b * b + (b - 1) ≤ E; lia⟩
      · rcases List.mem_append.mp h with h | h
        · split at h
          · cases h
          · rw [List.mem_singleton.mp h]
            exact ⟨by show E / b * b ≤ E; lia, Nat.le_refl _⟩
        · have := rws_le hb n (k + 1) _ _ (by lia) r h
          have h3 : (E + 1) / b - 1 ≤ E := by lia
          exact ⟨Nat.le_trans this.1 h3, Nat.le_trans this.2 h3⟩
theorem both {p q : Prop} [Decidable p] [Decidable q] (h : p) (h' : q) : (decide p && decide q) = true := by rw [decide_eq_true h, decide_eq_true h']; rfl
theorem not_snd {p q : Prop} [Decidable p] [Decidable q] (h : ¬ q) : ¬ (decide p && decide q) = true := by rw [decide_eq_false h, Bool.and_false]; exact Bool.false_ne_true
theorem not_fst {p q : Prop} [Decidable p] [Decidable q] (h : ¬ p) : ¬ (decide p && decide q) = true := by rw [decide_eq_false h, Bool.false_and]; exact Bool.false_ne_true
theorem countP_split (T : Nat → Nat → List Nat) (d : Nat) (t : List Nat) (l : List (List Nat)) (hn : t ∉ l) : ∀ done : List (Nat × Nat), (done.countP fun q => decide (q.1 = d) && decide (T q.1 q.2 = t)) + (done.countP fun q => decide (q.1 = d) && decide (T q.1 q.2 ∈ l)) = done.countP fun q => decide (q.1 = d) && decide (T q.1 q.2 ∈ t :: l)
  | [] => rfl
  | q :: done => by
    have ih := countP_split T d t l hn done
    rw [List.countP_cons, List.countP_cons, List.countP_cons]
    by_cases h0 : q.1 = d
    · by_cases h1 : T q.1 q.2 = t
      · have h2 : T q.1 q.2 ∉ l := h1 ▸ hn
        have h3 : T q.1 q.2 ∈ t :: l := h1 ▸ List.mem_cons_self
        rw [if_pos (both h0 h1), if_neg (not_snd h2), if_pos (both h0 h3)]
        lia
      · by_cases h2 : T q.1 q.2 ∈ l
        · rw [if_neg (not_snd h1), if_pos (both h0 h2), if_pos (both h0 (List.mem_cons_of_mem t h2))]
          lia
        · have h3 : T q.1 q.2 ∉ t :: l := fun h => (List.mem_cons.mp h).elim h1 h2
          rw [if_neg (not_snd h1), if_neg (not_snd h2), if_neg (not_snd h3)]
          lia
    · rw [if_neg (not_fst h0), if_neg (not_fst h0), if_neg (not_fst h0)]
      lia
theorem count_docs (T : Nat → Nat → List Nat) (done : List (Nat × Nat)) (d : Nat) (t : List Nat) : (docsN T done t).count d = done.countP fun q => decide (q.1 = d) && decide (T q.1 q.2 = t) := by
  unfold docsN
  rw [List.count_eq_countP, List.countP_map, List.countP_filter]
  refine List.countP_congr fun q _ => ?_
  simp
theorem count_flat2 (T : Nat → Nat → List Nat) (done : List (Nat × Nat)) (d : Nat) : ∀ {l : List (List Nat)}, l.Nodup → (l.flatMap (docsN T done)).count d = done.countP fun q => decide (q.1 = d) && decide (T q.1 q.2 ∈ l)
  | [], _ => by simp
  | t :: l, h => by
    (refine feed (List.nodup_cons.mp h) ?_; refine x0_2 ?_; intro h1 h2)
    rw [List.flatMap_cons, List.count_append, count_docs, count_flat2 T done d h2, countP_split T d t l h1]
theorem count_done (P : Nat → Nat → Bool) (nl d : Nat) : ∀ n, ((doneP nl n 0).countP fun q => decide (q.1 = d) && P q.1 q.2) = if d < n then (List.range (nl + 1)).countP (P d) else 0
  | 0 => by simp [doneP]
  | n + 1 => by
    have e : doneP nl (n + 1) 0 = doneP nl n 0 ++ (List.range (nl + 1)).map fun j => (n, j) := by
      rw [doneP_next]; simp [doneP]
    rw [e, List.countP_append, count_done P nl d n, List.countP_map]
    by_cases h : n = d
    · subst h
      rw [if_neg (Nat.lt_irrefl _), if_pos (Nat.lt_succ_self _), Nat.zero_add]
      refine List.countP_congr fun j _ => ?_
      simp
    · have h0 : (List.range (nl + 1)).countP ((fun q : Nat × Nat => decide (q.1 = d) && P q.1 q.2) ∘ fun j => (n, j)) = 0 := by
        rw [List.countP_eq_zero]
        intro j _
        simp [h]
      rw [h0, Nat.add_zero]
      by_cases h1 : d < n
      · rw [if_pos h1, if_pos (by lia)]
      · rw [if_neg h1, if_neg (by lia)]
theorem count_one (j : Nat) (c : Bool) : ∀ m, ((List.range m).countP fun k => decide (k = j) && c) = if j < m ∧ c = true then 1 else 0
  | 0 => by simp
  | m + 1 => by
    rw [List.range_succ, List.countP_append, count_one j c m]
    cases c with
    | false => simp
    | true =>
      by_cases h : m = j
      · subst h; simp
      · by_cases h1 : j < m
        · rw [if_pos ⟨h1, rfl⟩, if_pos ⟨by lia, rfl⟩]; simp [h]
        · rw [if_neg (by simp [h1]), if_neg (by intro hh; lia)]; simp [h]
theorem pow85 {z st : Nat} (k : KindOk z st) : 2 ^ z ≤ 85 ^ (if (z : Int) = 64 then 10 else 5) := by
  simp only [KindOk, List.mem_cons, Prod.mk.injEq, List.not_mem_nil, or_false] at k
  rcases k with ⟨rfl, rfl⟩ | ⟨rfl, rfl⟩ | ⟨rfl, rfl⟩ | ⟨rfl, rfl⟩ | ⟨rfl, rfl⟩ | ⟨rfl, rfl⟩ | ⟨rfl, rfl⟩ | ⟨rfl, rfl⟩ <;> decide
theorem done_mem {nl n d k : Nat} : (d, k) ∈ doneP nl n 0 ↔ d < n ∧ k < nl + 1 := by
  simp only [doneP, List.range_zero, List.map_nil, List.append_nil, List.mem_flatMap, List.mem_range, List.mem_map, Prod.mk.injEq]
  constructor
  · rintro ⟨x, hx, y, hy, rfl, rfl⟩; exact ⟨hx, hy⟩
  · (refine x0_2 ?_; intro h1 h2); exact ⟨d, h1, k, h2, rfl, rfl⟩
/-- a row's documents: each number of the row once -/
theorem count_row {z st : Nat} (kz : KindOk z st) {xs : List Nat} (hxz : ∀ x ∈ xs, x < 2 ^ z) {ts : List (List Nat)} (hnd : ts.Nodup) (hts : ∀ t, t ∈ ts ↔ ∃ q ∈ doneP (kN z st) xs.length 0, termL z st xs q.1 q.2 = t) {r : Nat × Nat × Nat} (hr1 : r.1 < 2 ^ z) (hr2 : r.2.1 < 2 ^ z) (hr3 : r.2.2 ≤ kN z st) (d : Nat) :
    (rowF z st ts (termL z st xs) (doneP (kN z st) xs.length 0) r).count d = if d < xs.length ∧ cov (2 ^ st) (xs.getD d 0) r = true then 1 else 0 := by
  obtain ⟨r1, r2, j⟩ := r
  unfold rowF
  rw [count_flat2 _ _ _ (hnd.filter _), count_done (fun d k => decide (termL z st xs d k ∈ ts.filter fun x => decide (¬ x < rowT z st j r1) && decide (¬ rowT z st j r2 < x)))]
  by_cases hd : d < xs.length
  · rw [if_pos hd]
    have hp := pow85 kz
    have hx : xs.getD d 0 < 2 ^ z := by
      rw [List.getD_eq_getElem?_getD, List.getElem?_eq_getElem hd]
      exact hxz _ (List.getElem_mem hd)
    have hv : ∀ k, xs.getD d 0 / 2 ^ (k * st) < 85 ^ (if (z : Int) = 64 then 10 else 5) := fun k => Nat.lt_of_le_of_lt (Nat.div_le_self _ _) (Nat.lt_of_lt_of_le hx hp)
    have hst : 0 < st := kz.b.1
    have e : (List.range (kN z st + 1)).countP (fun k => decide (termL z st xs d k ∈ ts.filter fun x => decide (¬ x < rowT z st j r1) && decide (¬ rowT z st j r2 < x))) = (List.range (kN z st + 1)).countP fun k => decide (k = j) && cov (2 ^ st) (xs.getD d 0) (r1, r2, j) := by
      refine List.countP_congr fun k hk => ?_
      have hk' := List.mem_range.mp hk
      have hm : termL z st xs d k ∈ ts := (hts _).2 ⟨(d, k), done_mem.mpr ⟨hd, hk'⟩, rfl⟩
      have l1 : termL z st xs d k < rowT z st j r1 ↔ k * st < j * st ∨ k * st = j * st ∧ xs.getD d 0 / 2 ^ (k * st) < r1 := tl_lt (hv k) (Nat.lt_of_lt_of_le hr1 hp)
      have l2 : rowT z st j r2 < termL z st xs d k ↔ j * st < k * st ∨ j * st = k * st ∧ r2 < xs.getD d 0 / 2 ^ (k * st) := tl_lt (Nat.lt_of_lt_of_le hr2 hp) (hv k)
      have hc : cov (2 ^ st) (xs.getD d 0) (r1, r2, j) = decide (r1 ≤ xs.getD d 0 / 2 ^ (j * st) ∧ xs.getD d 0 / 2 ^ (j * st) ≤ r2) := by
        unfold cov
        rw [← Nat.pow_mul, Nat.mul_comm st]
      have hlt : ∀ a b : Nat, a < b → a * st < b * st := fun a b h => Nat.mul_lt_mul_of_pos_right h hst
      rw [decide_eq_true_eq, List.mem_filter, Bool.and_eq_true, Bool.and_eq_true, decide_eq_true_eq, decide_eq_true_eq, decide_eq_true_eq, l1, l2, hc, decide_eq_true_eq]
      rcases Nat.lt_trichotomy k j with h | h | h
      · have := hlt _ _ h
        constructor
        · (refine x0_3 ?_; intro _ h1 _); exact absurd (.inl this) h1
        · (refine x0_2 ?_; intro h1 _); lia
      · subst h
        constructor
        · (refine x0_3 ?_; intro _ h1 h2); exact ⟨rfl, by lia, by lia⟩
        · (refine x0_3 ?_; intro _ h1 h2); exact ⟨hm, by lia, by lia⟩
      · have := hlt _ _ h
        constructor
        · (refine x0_3 ?_; intro _ _ h1); exact absurd (.inl this) h1
        · (refine x0_2 ?_; intro h1 _); lia
    rw [e, count_one]
    have hj : j < kN z st + 1 := Nat.lt_succ_of_le hr3
    by_cases hc : cov (2 ^ st) (xs.getD d 0) (r1, r2, j) = true
    · rw [if_pos ⟨hj, hc⟩, if_pos ⟨hd, hc⟩]
    · rw [if_neg fun h => hc h.2, if_neg fun h => hc h.2]
  · rw [if_neg hd, if_neg fun h => hd h.1]
theorem count_rows {z st : Nat} (kz : KindOk z st) {xs : List Nat} (hxz : ∀ x ∈ xs, x < 2 ^ z) {ts : List (List Nat)} (hnd : ts.Nodup) (hts : ∀ t, t ∈ ts ↔ ∃ q ∈ doneP (kN z st) xs.length 0, termL z st xs q.1 q.2 = t) (d : Nat) :
    ∀ R : List (Nat × Nat × Nat), (∀ r ∈ R, r.1 < 2 ^ z ∧ r.2.1 < 2 ^ z ∧ r.2.2 ≤ kN z st) → (R.flatMap (rowF z st ts (termL z st xs) (doneP (kN z st) xs.length 0))).count d = if d < xs.length then R.countP (cov (2 ^ st) (xs.getD d 0)) else 0
  | [], _ => by simp
  | r :: R, h => by
    have hr := h r List.mem_cons_self
    rw [List.flatMap_cons, List.count_append, count_rows kz hxz hnd hts d R (fun q hq => h q (List.mem_cons_of_mem _ hq)), count_row kz hxz hnd hts hr.1 hr.2.1 hr.2.2, List.countP_cons]
    by_cases hd : d < xs.length
    · by_cases hc : cov (2 ^ st) (xs.getD d 0) r = true
      · rw [if_pos ⟨hd, hc⟩, if_pos hd, if_pos hd, if_pos hc, Nat.add_comm]
      · rw [if_neg fun h => hc h.2, if_pos hd, if_pos hd, if_neg hc, Nat.zero_add, Nat.add_zero]
    · rw [if_neg fun h => hd h.1, if_neg hd, if_neg hd]
theorem found_perm {z st : Nat} (kz : KindOk z st) {xs : List Nat} (hxz : ∀ x ∈ xs, x < 2 ^ z) {ts : List (List Nat)} (hnd : ts.Nodup) (hts : ∀ t, t ∈ ts ↔ ∃ q ∈ doneP (kN z st) xs.length 0, termL z st xs q.1 q.2 = t) {a b : Nat} (hab : a ≤ b) (hbz : b < 2 ^ z) :
    ((rws (2 ^ st) (kN z st) 0 a b).flatMap (rowF z st ts (termL z st xs) (doneP (kN z st) xs.length 0))).Perm ((List.range xs.length).filter fun d => decide (a ≤ xs.getD d 0) && decide (xs.getD d 0 ≤ b)) := by
  have hb : 1 < 2 ^ st := Nat.one_lt_two_pow (by have := kz.b.1; lia)
  rw [List.perm_iff_count]
  intro d
  rw [count_rows kz hxz hnd hts d _ fun r hr => by
    have h1 := rws_le hb (kN z st) 0 a b hab r hr
    have h2 := rws_level (b := 2 ^ st) (kN z st) 0 a b r hr
    exact ⟨Nat.lt_of_le_of_lt h1.1 hbz, Nat.lt_of_le_of_lt h1.2 hbz, by lia⟩]
  rw [rws_cover hb _ _ _ _ _ hab, Nat.pow_zero, Nat.div_one, List.Nodup.count (List.nodup_range.filter _)]
  unfold one
  simp only [List.mem_filter, List.mem_range, Bool.and_eq_true, decide_eq_true_eq]
  by_cases hd : d < xs.length
  · by_cases hc : a ≤ xs.getD d 0 ∧ xs.getD d 0 ≤ b
    · rw [if_pos hd, if_pos hc, if_pos ⟨hd, hc⟩]
    · rw [if_pos hd, if_neg hc, if_neg fun h => hc h.2]
  · rw [if_neg hd, if_neg fun h => hd h.1]
end PureD
section Law11
theorem PostsAt.sub {w : World} {nw0 nw1 l : Led} {dp : Addr} {T : Nat → Nat → List Nat} {done : List (Nat × Nat)} {o : Obj} {ps : List (List Nat × Addr)} (P : PostsAt w nw0 dp T done l o ps) (hs : ∀ q ∈ nw1, q ∈ nw0) : PostsAt w nw1 dp T done l o ps :=
  ⟨P.mem, P.dict, P.nodup, P.knodup, P.keys, P.docs, fun q hq => P.old q (hs q hq), P.lo, P.len⟩
theorem b27_eq : b27 = [ls0s.1, ls1s.1, ls2s.1, ls3s.1, ls4s.1, ls5s.1, ls6s.1, ls7s.1, ls8s.1, ls9s.1, ls10s.1, ls11s.1, ls12s.1, ls13s.1, ls14s.1] := rfl
theorem term_ok {z st : Nat} (kz : KindOk z st) (xs : List Nat) (d k : Nat) : (termL z st xs d k).length = (if (z : Int) = 64 then 10 else 5) + 1 ∧ (k < kN z st + 1 → ∀ c ∈ termL z st xs d k, c < 128) := by
  unfold termL
  refine ⟨by rw [List.length_cons, digs_length]; rfl, fun hk c hc => ?_⟩
  rcases List.mem_cons.mp hc with rfl | hc
  · have := Nat.mul_le_mul_right st (show k ≤ kN z st by lia)
    have := kz.rows.2.1
    have := kz.b
    lia
  · exact Nat.lt_trans (digs_range _ _ _ hc).2 (by decide)
section
variable {w : World} {A A₀ : Around} {base : Heap} {outer : List Env} {s : Shared} {h₀ : Heap} {L fa : Addr} {cd : Value} {m : Str → Option Value} {nw : Led} {E : Value → Shared → Prop} {Q : Flow → Shared → Prop} {sl : Addr} {vs : List Value} {ns : List Int}
theorem law_body (C : LawC w A A₀ base outer h₀ L fa cd) (CH : CodeHd base 55 51) (h51L : (51 : Nat) < L) (F : Fr h₀ L s.heap m) {o1 o2 o3 : Obj} (N : News h₀ L s.heap [(L + 1 + 1 + 1, o3), (L + 1 + 1, o2), (L + 1, o1), (51, tabObj #[])]) (d1 : o1.data = .cell none) (d2 : o2.data = .cell none) (d3 : o3.data = .cell none) (hg : s.gens = #[])
    (ms : m (Str.ofString "script") = some (.ref sl)) (hl : h₀.IsList sl vs.toArray) (hI : IntsAre vs ns) (hL : (PyData.list (List.map PyData.int ns)).layable0 = true) (hk : ¬ ((63 : Nat) : Int) < (ns.length : Int)) (hE : PassesOwn (model prog w) A (envL L fa cd) E)
    (h : ∀ h₀' h' tk' m' nw' ps', TurnS A₀ base outer h₀ h₀' → Fr h₀' L h' m' → News h₀' L h' nw' → (51, tabObj ps') ∈ nw' → Q (.ret (.bool true)) ⟨h', #[.finished], s.drawn, tk', s.os⟩) :
    wpAny (model prog w) A (execs b27 (envL L fa cd)) Q E s := by
  rw [b27_eq]
  have c51 : (51 : Nat) ≠ L + 1 ∧ (51 : Nat) ≠ L + 1 + 1 ∧ (51 : Nat) ≠ L + 1 + 1 + 1 := by
    have : (51 : Nat) < L := h51L
    lia
  have cc : (L + 1 : Nat) ≠ L + 1 + 1 ∧ (L + 1 : Nat) ≠ L + 1 + 1 + 1 ∧ (L + 1 + 1 : Nat) ≠ L + 1 + 1 + 1 := ⟨Nat.ne_of_lt (Nat.lt_succ_self _), Nat.ne_of_lt (Nat.lt_succ_of_lt (Nat.lt_succ_self _)), Nat.ne_of_lt (Nat.lt_succ_self _)⟩
  refine wpAny_execs_cons (law_s0 C F N ms hl hI hL hk fun h₁ tk₁ v₁ t₁ m₁ F₁ N₁ S₁ => ?_)
  dsimp only
  refine wpAny_execs_cons (law_s1 (s := ⟨h₁, s.gens, s.drawn, tk₁, s.os⟩) C F₁ N₁ S₁.at_ fun h₂ tk₂ z st tz tt nw₂ m₂ kz F₂ N₂ k₂ mz₂ mt₂ g₂ => ?_)
  dsimp only
  have ms₂ : m₂ (Str.ofString "script") = some (.ref sl) := (g₂ _ (by decide) (by decide)).trans ((S₁.ne _ (by decide)).trans ms)
  refine wpAny_execs_cons (law_s2 (t3 := 0) (t4 := 0) (t5 := 0) (s := ⟨h₂, s.gens, s.drawn, tk₂, s.os⟩) C F₂ N₂ kz mz₂ mt₂ fun h₃ tk₃ t₃ m₃ F₃ N₃ S₃ => ?_)
  dsimp only
  have mz₃ := (S₃.ne _ (by decide)).trans mz₂
  have mt₃ := (S₃.ne _ (by decide)).trans mt₂
  have ms₃ := (S₃.ne _ (by decide)).trans ms₂
  refine wpAny_execs_cons (law_s3 (t2 := 0) (t3 := 0) (t4 := 0) (t5 := 0) (s := ⟨h₃, s.gens, s.drawn, tk₃, s.os⟩) C F₃ N₃ ms₃ hl hI hL hk kz mz₃ fun h₄ tk₄ v₄ t₄ m₄ F₄ N₄ S₄ hv₄ => ?_)
  dsimp only
  have mz₄ := (S₄.ne _ (by decide)).trans mz₃
  have mt₄ := (S₄.ne _ (by decide)).trans mt₃
  have ms₄ := (S₄.ne _ (by decide)).trans ms₃
  have hbk : 2 ^ ((z - 1) / st * st) < 2 ^ z := Nat.pow_lt_pow_right (by decide) kz.rows.2.1
  refine wpAny_execs_cons (law_s4 (t3 := 0) (t4 := 0) (t5 := 0) (s := ⟨h₄, s.gens, s.drawn, tk₄, s.os⟩) C F₄ N₄ ms₄ hl hI hL hk kz hbk mz₄ ((S₄.ne _ (by decide)).trans S₃.at_) fun h₅ tk₅ v₅ t₅ m₅ F₅ N₅ S₅ hb₅ hv₅ => ?_)
  dsimp only
  have mz₅ := (S₅.ne _ (by decide)).trans mz₄
  have mt₅ := (S₅.ne _ (by decide)).trans mt₄
  have ms₅ := (S₅.ne _ (by decide)).trans ms₄
  have mo₅ := (S₅.ne _ (by decide)).trans S₄.at_
  refine wpAny_execs_cons (law_s5 (s := ⟨h₅, s.gens, s.drawn, tk₅, s.os⟩) C F₅ N₅ (k₂ _ (.tail _ (.tail _ (.head _)))) d1 mo₅ S₅.at_ fun h₆ tk₆ oa ta F₆ N₆ da => ?_)
  dsimp only
  refine wpAny_execs_cons (law_s6 (s := ⟨h₆, s.gens, s.drawn, tk₆, s.os⟩) C F₆ N₆ (mem_put_of (k₂ _ (.tail _ (.head _))) cc.1.symm) d2 mo₅ S₅.at_ fun h₇ tk₇ ob tb F₇ N₇ db => ?_)
  dsimp only
  refine wpAny_execs_cons (law_s7 (s := ⟨h₇, s.gens, s.drawn, tk₇, s.os⟩) C F₇ N₇ (mem_put_of (mem_put_of (k₂ _ (.head _)) cc.2.1.symm) cc.2.2.symm) d3 fun h₈ tk₈ oc ln F₈ N₈ hln dc => ?_)
  dsimp only
  -- the ledger of the numbers' loop
  have e1 : (L + 1, oa) ∈ put (L + 1 + 1 + 1) oc ((ln, listOf #[] 0) :: put (L + 1 + 1) ob (put (L + 1) oa nw₂)) := mem_put_of (.tail _ (mem_put_of mem_put cc.1)) cc.2.1
  have e2 : (L + 1 + 1, ob) ∈ put (L + 1 + 1 + 1) oc ((ln, listOf #[] 0) :: put (L + 1 + 1) ob (put (L + 1) oa nw₂)) := mem_put_of (.tail _ mem_put) cc.2.2
  have e3 : (L + 1 + 1 + 1, oc) ∈ put (L + 1 + 1 + 1) oc ((ln, listOf #[] 0) :: put (L + 1 + 1) ob (put (L + 1) oa nw₂)) := mem_put
  have f3 : (L + 1 + 1 + 1, o3) ∈ put (L + 1 + 1) ob (put (L + 1) oa nw₂) := mem_put_of (mem_put_of (k₂ _ (.head _)) cc.2.1.symm) cc.2.2.symm
  have e4 : (ln, listOf #[] 0) ∈ put (L + 1 + 1 + 1) oc ((ln, listOf #[] 0) :: put (L + 1 + 1) ob (put (L + 1) oa nw₂)) := mem_put_of (.head _) (Nat.ne_of_gt (hln _ f3))
  have f5 : (51, tabObj #[]) ∈ put (L + 1 + 1) ob (put (L + 1) oa nw₂) := mem_put_of (mem_put_of (k₂ _ (.tail _ (.tail _ (.tail _ (.head _))))) c51.1) c51.2.1
  have e5 : (51, tabObj #[]) ∈ put (L + 1 + 1 + 1) oc ((ln, listOf #[] 0) :: put (L + 1 + 1) ob (put (L + 1) oa nw₂)) := mem_put_of (.tail _ f5) c51.2.2
  have g1 : (L + 1 : Nat) ≠ ln := Nat.ne_of_lt (hln _ (mem_put_of mem_put cc.1))
  have g2 : (L + 1 + 1 : Nat) ≠ ln := Nat.ne_of_lt (hln _ mem_put)
  have g3 : (L + 1 + 1 + 1 : Nat) ≠ ln := Nat.ne_of_lt (hln _ f3)
  have g5 : (51 : Nat) ≠ ln := Nat.ne_of_lt (hln _ f5)
  generalize put (L + 1 + 1 + 1) oc ((ln, listOf #[] 0) :: put (L + 1 + 1) ob (put (L + 1) oa nw₂)) = nw₈ at N₈ e1 e2 e3 e4 e5
  refine wpAny_execs_cons (law_s8 (s := ⟨h₈, s.gens, s.drawn, tk₈, s.os⟩) C F₈ N₈ ms₅ hl hI hL hk kz mz₅ e1 da e2 db e3 dc e4 hE fun H₉ h₉ tk₉ m₉ nw₉ vsn cn xs T₉ F₉ N₉ k₉ hn₉ hI₉ hx6 hxz gm₉ => ?_)
  dsimp only
  have C₉ := C.turn T₉
  have mz₉ := (gm₉ _ (by decide)).trans mz₅
  have mt₉ := (gm₉ _ (by decide)).trans mt₅
  have q1 := k₉ _ e1 g1
  have q2 := k₉ _ e2 g2
  have q3 := k₉ _ e3 g3
  have q5 := k₉ _ e5 g5
  refine wpAny_execs_cons (law_s9 (s := ⟨h₉, s.gens, s.drawn, tk₉, s.os⟩) (T := termL z st xs) C₉ F₉ N₉ fun ha tka dp oda ma nwa Fa Na Pa Sa => ?_)
  dsimp only
  refine wpAny_execs_cons (law_s10 (s := ⟨ha, s.gens, s.drawn, tka, s.os⟩) C₉ Fa Na Pa kz ((Sa.ne _ (by decide)).trans mz₉) ((Sa.ne _ (by decide)).trans mt₉) Sa.at_ q3 dc hn₉ hI₉ hx6 hxz hE fun Hb hb tkb mb nwb od ps Tb Fb Nb Pb gb => ?_)
  dsimp only
  have Cb := C₉.turn Tb
  have mzb := (gb _ (by decide)).trans ((Sa.ne _ (by decide)).trans mz₉)
  have mtb := (gb _ (by decide)).trans ((Sa.ne _ (by decide)).trans mt₉)
  have mpb := (gb _ (by decide)).trans Sa.at_
  have hlen : (doneP (kN z st) xs.length 0).length ≤ 40 := by
    rw [doneP_len]
    have : xs.length * (kN z st + 1) ≤ 6 * 4 := Nat.mul_le_mul hx6 (by have := kz.rows.1; lia)
    lia
  refine wpAny_execs_cons (law_s11 (s := ⟨hb, s.gens, s.drawn, tkb, s.os⟩) (NN := (if (z : Int) = 64 then 10 else 5) + 1) Cb Fb Nb Pb mpb (fun d k => ⟨(term_ok kz xs d k).1, fun hd => (term_ok kz xs d k).2 (done_mem.mp hd).2⟩) (Nat.succ_pos _) (by split <;> decide) hlen fun Hc hc tkc mc nwc G b av Tc Fc Nc kc Dc hav hacc hts Sc => ?_)
  dsimp only
  have Cc := Cb.turn Tc
  (revert hts; refine x1_1 ?_; intro ts; refine x0_2 ?_; intro hts htm)
  refine wpAny_execs_cons (law_s12 (s := ⟨hc, s.gens, s.drawn, tkc, s.os⟩) Cc Fc Nc fun hd tkd md fl Fd Nd hfl Sd => ?_)
  dsimp only
  have olf : ∀ q ∈ nwb, q.1 ≠ G.ol := fun q hq e => (kc q hq).2.1 (by rw [e]; exact Ads.six_fix (by simp [Ads.six]))
  have P1 := Pb.sub (nw1 := [(L + 1, oa), (L + 1 + 1, ob), (L + 1 + 1 + 1, oc), (ln, listOf (List.toArray vsn) cn)]) (by
    intro q hq
    simp only [List.mem_cons, List.not_mem_nil, or_false] at hq
    rcases hq with rfl | rfl | rfl | rfl
    · exact q1
    · exact q2
    · exact q3
    · exact hn₉)
  have r5 := (Pb.old _ q5)
  have h51n : ∀ q ∈ ([(L + 1, oa), (L + 1 + 1, ob), (L + 1 + 1 + 1, oc), (ln, listOf (List.toArray vsn) cn)] : Led), q.1 ≠ 51 := by
    intro q hq
    simp only [List.mem_cons, List.not_mem_nil, or_false] at hq
    rcases hq with rfl | rfl | rfl | rfl
    · exact c51.1.symm
    · exact c51.2.1.symm
    · exact c51.2.2.symm
    · exact g5.symm
  have Pd : PostsAt w [(L + 1, oa), (L + 1 + 1, ob), (L + 1 + 1 + 1, oc), (ln, listOf (List.toArray vsn) cn)] dp (termL z st xs) (doneP (kN z st) xs.length 0) ((fl, listOf #[] 0) :: nwc) od ps := P1.mono (fun p hp _ => .tail _ (kc p hp).1) P1.cls
  have Bk : BookAt w ((fl, listOf #[] 0) :: nwc) G b av := ⟨Dc.sr.mono fun p hp _ => .tail _ hp, fun y hy => let ⟨o, ho⟩ := hav y hy; ⟨o, .tail _ ho⟩, Dc.good, Dc.small, Dc.tg⟩
  have hkeys : ∀ t, t ∈ ts ↔ ∃ q ∈ doneP (kN z st) xs.length 0, termL z st xs q.1 q.2 = t := fun t => (htm t).trans (Pb.keys t)
  have htn : ∀ t ∈ ts, t.length ≤ 12 ∧ ∀ c ∈ t, c < 128 := fun t ht => by
    obtain ⟨⟨d, k⟩, hq, rfl⟩ := (hkeys t).1 ht
    refine ⟨?_, (term_ok kz xs d k).2 (done_mem.mp hq).2⟩
    rw [(term_ok kz xs d k).1]
    split <;> decide
  have mz' := (Sd.ne _ (by decide)).trans ((Sc.ne _ (by decide)).trans mzb)
  have mt' := (Sd.ne _ (by decide)).trans ((Sc.ne _ (by decide)).trans mtb)
  have mp' := (Sd.ne _ (by decide)).trans ((Sc.ne _ (by decide)).trans mpb)
  have mk' := (Sd.ne _ (by decide)).trans Sc.at_
  have hab : min v₄ v₅ ≤ max v₄ v₅ := Nat.le_trans (Nat.min_le_left _ _) (Nat.le_max_left _ _)
  have hbz : max v₄ v₅ < 2 ^ z := Nat.max_lt.mpr ⟨hv₄, hv₅⟩
  refine wpAny_execs_cons (law_s13 (s := ⟨hd, s.gens, s.drawn, tkd, s.os⟩) Cc CH h51L Fd Nd hg Pd Bk (.tail _ (kc _ r5.1).1) (kc _ r5.1).2.2 (fun hm => (kc _ r5.1).2.1 (Ads.six_fix hm)) ⟨r5.2.1.symm, fun p hp => (r5.2.2 p hp).symm, h51n⟩ hacc hts htm htn
    ⟨olf _ Pb.mem, fun p hp => let ⟨_, _, d1, _⟩ := Pb.docs p hp; olf _ d1, fun q hq => olf _ (P1.old q hq).1⟩ (.head _) hlen (Pd.old _ (.head _)).1 da (Pd.old _ (.tail _ (.head _))).1 db kz hab hbz (Nat.le_trans hb₅ (Nat.le_max_right _ _)) mz' mt' mp' mk' Sd.at_ hE
    fun He he tke me nwe fle fvse ce pse Te Fe Ne h51e hke hfle hfe mfe ge => ?_)
  dsimp only
  have nw1 : ∀ q ∈ ([(L + 1, oa), (L + 1 + 1, ob), (L + 1 + 1 + 1, oc), (ln, listOf (List.toArray vsn) cn)] : Led), q ∈ nwe := hke
  have hnd : ts.Nodup := List.Pairwise.imp (R := fun a b : List Nat => a < b) (fun {a b} h (e : a = b) => lt_irr b (by rw [e] at h; exact h)) hts
  have Ce := Cc.turn Te
  refine wpAny_execs_cons (law_s14 (s := ⟨he, #[.finished], s.drawn, tke, s.os⟩) Ce Fe Ne mfe (nw1 _ (.head _)) da (nw1 _ (.tail _ (.head _))) db (nw1 _ (.tail _ (.tail _ (.head _)))) dc (nw1 _ (.tail _ (.tail _ (.tail _ (.head _))))) hI₉ hx6 hfle hfe (found_perm kz hxz hnd hkeys hab hbz) fun hf tkf nwf Ff Nf kf => ?_)
  dsimp only
  exact h He hf tkf me nwf pse (((T₉.trans Tb).trans Tc).trans Te) Ff Nf (kf _ h51e)
end
end Law11
section Fin
/-- what the law's call may leave: a code table grown, generators that have ended -/
theorem post_of {M : Model} {A : Around} {c : Code} {s s₁ : Shared} {cw : ClaimW} {cl : Str → Option Addr} {mean : ExcName → Option Value} {args : List WData} {tabs : List (Addr × Addr)} (hT : TabsAt tabs s₁.heap) (hr : ∀ a x, cw.raises a x = false)
    (h : codeAny M A c (fun r s' => GoodW cw cl mean args { s₁ with heap := ghostOf s₁.heap tabs } r { s' with gens := #[] } ∧ AllBare s'.gens ∧ GrownAll tabs s'.heap) s) : codeAny M A c (GoodWG cw cl mean args s₁) s := by
  refine codeAny_mono h fun r s' => ?_
  (refine x0_3 ?_; refine x0_4 ?_; intro hc hk hos _; intro hb hgr)
  have step : ∀ b o, s₁.heap.get? b = some o → asItWas s₁.heap s'.heap b o ∧ ∃ o', s'.heap.get? b = some o' := fun b o e => by
    by_cases hm : b ∈ tabs.map (·.2)
    · (refine feed (List.mem_map.mp hm) ?_; refine x1_1 ?_; intro q; refine x0_2 ?_; intro hq; intro zz9; subst zz9)
      (refine feed (hT q hq) ?_; refine x0_2 ?_; intro hd hp)
      rw [e] at hp
      cases hp
      (refine feed (hgr.get q hq) ?_; refine x1_1 ?_; intro ps hps)
      exact ⟨.inr (.inl ⟨(hd.tab e).isCodeTable, rfl, #[], ps, rfl, by rw [Array.empty_append]; exact hps⟩), _, hps⟩
    · have := hk b o (ghost_ne e hm)
      exact ⟨.inl this, _, this⟩
  refine ⟨hc.imp (fun ⟨v, d, as, r1, r2, r3, r4, r5⟩ => ⟨v, d, as, r1, r2, r3, r4, fun q => ⟨(r5 q).1, fun a ha => ?_⟩⟩) fun ⟨e, ob, x, r1, r2, r3, r4, _⟩ => absurd r4 (by rw [hr]; exact Bool.false_ne_true), ⟨fun b o e => (step b o e).1, fun b o e => (step b o e).2⟩, hos, hb⟩
  cases e : s₁.heap.get? a with
  | none => rfl
  | some o =>
    have hn := (r5 q).2 a ha
    by_cases hm : a ∈ tabs.map (·.2)
    · (refine feed (List.mem_map.mp hm) ?_; refine x1_1 ?_; intro p; refine x0_2 ?_; intro hp; intro zz9; subst zz9)
      (refine feed (hgr.get p hp) ?_; refine x1_1 ?_; intro ps hps)
      exact absurd ha (readsW_apart hps rfl r3)
    · rw [show (ghostOf s₁.heap tabs).get? a = some o from ghost_ne e hm] at hn
      cases hn
theorem t : PySem.Challenge.rw_af0044_01.Holds := by
  w_on
  refine holds_law Mine.said fun said => ?_
  refine holds_open (q := Mine.q) (loose := Mine.loose) (Xt := Mine.Xt) (XP := XL Mine.q []) (Yf := Hook.obs Mine.H) (Ya := Hook.val Mine.H) (YP := Hook.says Mine.H) (N := 5734) Mine.left (Hook.of Mine.H) (Hook.keeps Mine.H)
    (fun s e => xl_of s (Bool.and_eq_true_iff.mp e).1) XL.keeps (by rfl) (by rfl) (by rfl) (fun s e => recFacts_of (Bool.and_eq_true_iff.mp e).2) (by rfl) (by first | assumption | decide +kernel) (by decide +kernel) ⟨rfl, rfl, rfl, rfl, rfl, by decide +kernel⟩ ?hw ?hc
  case hw => w_witness2
  case hc =>
    unfold Mine.H
    k_fill
    intro w s₀ s₁ mg mb G Y fa o pm cd doc dV kV ho hd hcd hD hmg hg args vals as hpre hlay hrd hwl hlo
    have KX := km_in_of Y
    km_tabs Y
    have X := (Ground.X G).1
    have V := (Ground.X G).2
    refine Ground.open G ?_
    intro T B D TE TW
    try (refine guard_noD D (by decide +kernel) ?_; clear D)
    km_lay T hmg ho hd cd
    clear hmg
    wrow_args hpre hlay hrd hwl hlo
    all_goals (
      first | refine callC_kw (enter_call ?_) | refine enter_call ?_
      w_top on
      refine post_of hT9 (fun _ _ => rfl) ?_
      w_call any ho hd hcd hD T F
      clear hd
      kn_ghosts F T
      k_drop
      skip)
    rename Fr (ghostOf s₁.heap [(55, 51)]) _ _ _ => FF
    rename News (ghostOf s₁.heap [(55, 51)]) _ _ _ => NN
    rename Frag.In (K w.params) (ghostOf s₁.heap [(55, 51)]) => XX
    rename Top topProg _ _ _ _ (ghostOf s₁.heap [(55, 51)]) => TT
    rename Below callerA (ghostOf s₁.heap [(55, 51)]) [] _ => BB
    rename CodeHd (ghostOf s₁.heap [(55, 51)]) _ _ => CC
    rename Heap.IsList (ghostOf s₁.heap [(55, 51)]) _ _ => LL
    rename IntsAre _ _ => II
    rename (PyData.layable0 _ = true) => YY
    rename (¬ _ < _) => KK
    rename (51 < _) => l51
    refine law_body (w := w) (A₀ := callerA) (base := ghostOf s₁.heap [(55, 51)]) (outer := []) (h₀ := ghostOf s₁.heap [(55, 51)]) (L := s₁.heap.objs.size) (fa := fa) (cd := cd) ⟨BB, XX, ⟨_, _, _, _, TT⟩, ?hA, rfl, ?hd, ?hu, XX, ⟨_, _, _, _, TT⟩, fun _ hb => nomatch hb⟩ CC l51 FF NN ?d1 ?d2 ?d3 hg rfl LL II YY KK (by passes_own) ?hend
    case hA => exact rfl
    case hd =>
      show 1 + claimMargin + 1 ≤ 305
      decide
    case hu =>
      show 4 + 3 ≤ 50
      decide
    case d1 => assumption
    case d2 => assumption
    case d3 => assumption
    case hend =>
      intro h₀' h' tk' m' nw' ps' tt Ff Nf h51
      refine ⟨⟨.inl ⟨.bool true, .bool true, [], rfl, fun _ => rfl, .bool _, ?hpost, fun _ => ⟨.nil, fun _ hx => nomatch hx⟩⟩, fun b o e => Ff.keep b o (tt.B.stays b o e), rfl, rfl⟩, ?_, GrownAt.of Nf h51, trivial⟩
      case hpost => exact postW_of (by rfl) (w_eq_bool (w_res rfl) w_lit) rfl
      intro y hy
      have : y = .finished := by simpa using hy
      rw [this]; rfl
end Fin
end Mine
theorem PySem.Challenge.cw_af0044_01_holds : PySem.Challenge.rw_af0044_01.Holds := by
  exact Mine.t
