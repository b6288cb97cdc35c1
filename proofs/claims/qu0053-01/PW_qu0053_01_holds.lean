import PyProof.Rows.All
import Wide.All
import OpenK.AllK
import Wide.FinOn
import Open.Tops
import PySem.Challenge.RW_qu0053_01
set_option Elab.async false
section PartT0
open PySem PySem.W PyProof.Rows
namespace Mine
set_option maxRecDepth 100000 in
set_option maxHeartbeats 8000000 in
noncomputable def pq : Program := by
  refine (?f : ∀ p : Program, PySem.Challenge.pw_qu0053_01 = p → Program) ?p ?h
  case h =>
    unfold PySem.Challenge.pw_qu0053_01
    simp only [show Str.ofString "__name__" = Str.mk ⟨[nat_lit 95, nat_lit 95, nat_lit 110, nat_lit 97, nat_lit 109, nat_lit 101, nat_lit 95, nat_lit 95]⟩ from rfl,
      show Str.ofString "cpy313._pylong" = Str.mk ⟨[nat_lit 99, nat_lit 112, nat_lit 121, nat_lit 51, nat_lit 49, nat_lit 51, nat_lit 46, nat_lit 95, nat_lit 112, nat_lit 121, nat_lit 108, nat_lit 111, nat_lit 110, nat_lit 103]⟩ from rfl,
      show Str.ofString "_DIV_LIMIT" = Str.mk ⟨[nat_lit 95, nat_lit 68, nat_lit 73, nat_lit 86, nat_lit 95, nat_lit 76, nat_lit 73, nat_lit 77, nat_lit 73, nat_lit 84]⟩ from rfl,
      show Str.ofString "_div2n1n" = Str.mk ⟨[nat_lit 95, nat_lit 100, nat_lit 105, nat_lit 118, nat_lit 50, nat_lit 110, nat_lit 49, nat_lit 110]⟩ from rfl,
      show Str.ofString "a" = Str.mk ⟨[nat_lit 97]⟩ from rfl,
      show Str.ofString "b" = Str.mk ⟨[nat_lit 98]⟩ from rfl,
      show Str.ofString "n" = Str.mk ⟨[nat_lit 110]⟩ from rfl,
      show Str.ofString "bit_length" = Str.mk ⟨[nat_lit 98, nat_lit 105, nat_lit 116, nat_lit 95, nat_lit 108, nat_lit 101, nat_lit 110, nat_lit 103, nat_lit 116, nat_lit 104]⟩ from rfl,
      show Str.ofString "divmod" = Str.mk ⟨[nat_lit 100, nat_lit 105, nat_lit 118, nat_lit 109, nat_lit 111, nat_lit 100]⟩ from rfl,
      show Str.ofString "pad" = Str.mk ⟨[nat_lit 112, nat_lit 97, nat_lit 100]⟩ from rfl,
      show Str.ofString "half_n" = Str.mk ⟨[nat_lit 104, nat_lit 97, nat_lit 108, nat_lit 102, nat_lit 95, nat_lit 110]⟩ from rfl,
      show Str.ofString "mask" = Str.mk ⟨[nat_lit 109, nat_lit 97, nat_lit 115, nat_lit 107]⟩ from rfl,
      show Str.ofString "b1" = Str.mk ⟨[nat_lit 98, nat_lit 49]⟩ from rfl,
      show Str.ofString "b2" = Str.mk ⟨[nat_lit 98, nat_lit 50]⟩ from rfl,
      show Str.ofString "q1" = Str.mk ⟨[nat_lit 113, nat_lit 49]⟩ from rfl,
      show Str.ofString "r" = Str.mk ⟨[nat_lit 114]⟩ from rfl,
      show Str.ofString "_div3n2n" = Str.mk ⟨[nat_lit 95, nat_lit 100, nat_lit 105, nat_lit 118, nat_lit 51, nat_lit 110, nat_lit 50, nat_lit 110]⟩ from rfl,
      show Str.ofString "q2" = Str.mk ⟨[nat_lit 113, nat_lit 50]⟩ from rfl,
      show Str.ofString "a12" = Str.mk ⟨[nat_lit 97, nat_lit 49, nat_lit 50]⟩ from rfl,
      show Str.ofString "a3" = Str.mk ⟨[nat_lit 97, nat_lit 51]⟩ from rfl,
      show Str.ofString "q" = Str.mk ⟨[nat_lit 113]⟩ from rfl,
      show Str.ofString "_int2digits" = Str.mk ⟨[nat_lit 95, nat_lit 105, nat_lit 110, nat_lit 116, nat_lit 50, nat_lit 100, nat_lit 105, nat_lit 103, nat_lit 105, nat_lit 116, nat_lit 115]⟩ from rfl,
      show Str.ofString "a_digits" = Str.mk ⟨[nat_lit 97, nat_lit 95, nat_lit 100, nat_lit 105, nat_lit 103, nat_lit 105, nat_lit 116, nat_lit 115]⟩ from rfl,
      show Str.ofString "inner" = Str.mk ⟨[nat_lit 105, nat_lit 110, nat_lit 110, nat_lit 101, nat_lit 114]⟩ from rfl,
      show Str.ofString "x" = Str.mk ⟨[nat_lit 120]⟩ from rfl,
      show Str.ofString "L" = Str.mk ⟨[nat_lit 76]⟩ from rfl,
      show Str.ofString "R" = Str.mk ⟨[nat_lit 82]⟩ from rfl,
      show Str.ofString "mid" = Str.mk ⟨[nat_lit 109, nat_lit 105, nat_lit 100]⟩ from rfl,
      show Str.ofString "shift" = Str.mk ⟨[nat_lit 115, nat_lit 104, nat_lit 105, nat_lit 102, nat_lit 116]⟩ from rfl,
      show Str.ofString "upper" = Str.mk ⟨[nat_lit 117, nat_lit 112, nat_lit 112, nat_lit 101, nat_lit 114]⟩ from rfl,
      show Str.ofString "lower" = Str.mk ⟨[nat_lit 108, nat_lit 111, nat_lit 119, nat_lit 101, nat_lit 114]⟩ from rfl,
      show Str.ofString "len" = Str.mk ⟨[nat_lit 108, nat_lit 101, nat_lit 110]⟩ from rfl,
      show Str.ofString "_digits2int" = Str.mk ⟨[nat_lit 95, nat_lit 100, nat_lit 105, nat_lit 103, nat_lit 105, nat_lit 116, nat_lit 115, nat_lit 50, nat_lit 105, nat_lit 110, nat_lit 116]⟩ from rfl,
      show Str.ofString "digits" = Str.mk ⟨[nat_lit 100, nat_lit 105, nat_lit 103, nat_lit 105, nat_lit 116, nat_lit 115]⟩ from rfl,
      show Str.ofString "_divmod_pos" = Str.mk ⟨[nat_lit 95, nat_lit 100, nat_lit 105, nat_lit 118, nat_lit 109, nat_lit 111, nat_lit 100, nat_lit 95, nat_lit 112, nat_lit 111, nat_lit 115]⟩ from rfl,
      show Str.ofString "q_digits" = Str.mk ⟨[nat_lit 113, nat_lit 95, nat_lit 100, nat_lit 105, nat_lit 103, nat_lit 105, nat_lit 116, nat_lit 115]⟩ from rfl,
      show Str.ofString "a_digit" = Str.mk ⟨[nat_lit 97, nat_lit 95, nat_lit 100, nat_lit 105, nat_lit 103, nat_lit 105, nat_lit 116]⟩ from rfl,
      show Str.ofString "reversed" = Str.mk ⟨[nat_lit 114, nat_lit 101, nat_lit 118, nat_lit 101, nat_lit 114, nat_lit 115, nat_lit 101, nat_lit 100]⟩ from rfl,
      show Str.ofString "q_digit" = Str.mk ⟨[nat_lit 113, nat_lit 95, nat_lit 100, nat_lit 105, nat_lit 103, nat_lit 105, nat_lit 116]⟩ from rfl,
      show Str.ofString "append" = Str.mk ⟨[nat_lit 97, nat_lit 112, nat_lit 112, nat_lit 101, nat_lit 110, nat_lit 100]⟩ from rfl,
      show Str.ofString "reverse" = Str.mk ⟨[nat_lit 114, nat_lit 101, nat_lit 118, nat_lit 101, nat_lit 114, nat_lit 115, nat_lit 101]⟩ from rfl,
      show Str.ofString "int_divmod" = Str.mk ⟨[nat_lit 105, nat_lit 110, nat_lit 116, nat_lit 95, nat_lit 100, nat_lit 105, nat_lit 118, nat_lit 109, nat_lit 111, nat_lit 100]⟩ from rfl,
      show Str.ofString "ZeroDivisionError" = Str.mk ⟨[nat_lit 90, nat_lit 101, nat_lit 114, nat_lit 111, nat_lit 68, nat_lit 105, nat_lit 118, nat_lit 105, nat_lit 115, nat_lit 105, nat_lit 111, nat_lit 110, nat_lit 69, nat_lit 114, nat_lit 114, nat_lit 111, nat_lit 114]⟩ from rfl,
      show Str.ofString "cpy313.doctest" = Str.mk ⟨[nat_lit 99, nat_lit 112, nat_lit 121, nat_lit 51, nat_lit 49, nat_lit 51, nat_lit 46, nat_lit 100, nat_lit 111, nat_lit 99, nat_lit 116, nat_lit 101, nat_lit 115, nat_lit 116]⟩ from rfl,
      show Str.ofString "ELLIPSIS_MARKER" = Str.mk ⟨[nat_lit 69, nat_lit 76, nat_lit 76, nat_lit 73, nat_lit 80, nat_lit 83, nat_lit 73, nat_lit 83, nat_lit 95, nat_lit 77, nat_lit 65, nat_lit 82, nat_lit 75, nat_lit 69, nat_lit 82]⟩ from rfl,
      show Str.ofString "..." = Str.mk ⟨[nat_lit 46, nat_lit 46, nat_lit 46]⟩ from rfl,
      show Str.ofString "_ellipsis_match" = Str.mk ⟨[nat_lit 95, nat_lit 101, nat_lit 108, nat_lit 108, nat_lit 105, nat_lit 112, nat_lit 115, nat_lit 105, nat_lit 115, nat_lit 95, nat_lit 109, nat_lit 97, nat_lit 116, nat_lit 99, nat_lit 104]⟩ from rfl,
      show Str.ofString "want" = Str.mk ⟨[nat_lit 119, nat_lit 97, nat_lit 110, nat_lit 116]⟩ from rfl,
      show Str.ofString "got" = Str.mk ⟨[nat_lit 103, nat_lit 111, nat_lit 116]⟩ from rfl,
      show Str.ofString "ws" = Str.mk ⟨[nat_lit 119, nat_lit 115]⟩ from rfl,
      show Str.ofString "split" = Str.mk ⟨[nat_lit 115, nat_lit 112, nat_lit 108, nat_lit 105, nat_lit 116]⟩ from rfl,
      show Str.ofString "startpos" = Str.mk ⟨[nat_lit 115, nat_lit 116, nat_lit 97, nat_lit 114, nat_lit 116, nat_lit 112, nat_lit 111, nat_lit 115]⟩ from rfl,
      show Str.ofString "endpos" = Str.mk ⟨[nat_lit 101, nat_lit 110, nat_lit 100, nat_lit 112, nat_lit 111, nat_lit 115]⟩ from rfl,
      show Str.ofString "w" = Str.mk ⟨[nat_lit 119]⟩ from rfl,
      show Str.ofString "startswith" = Str.mk ⟨[nat_lit 115, nat_lit 116, nat_lit 97, nat_lit 114, nat_lit 116, nat_lit 115, nat_lit 119, nat_lit 105, nat_lit 116, nat_lit 104]⟩ from rfl,
      show Str.ofString "endswith" = Str.mk ⟨[nat_lit 101, nat_lit 110, nat_lit 100, nat_lit 115, nat_lit 119, nat_lit 105, nat_lit 116, nat_lit 104]⟩ from rfl,
      show Str.ofString "find" = Str.mk ⟨[nat_lit 102, nat_lit 105, nat_lit 110, nat_lit 100]⟩ from rfl,
      show Str.ofString "LPAR" = Str.mk ⟨[nat_lit 76, nat_lit 80, nat_lit 65, nat_lit 82]⟩ from rfl,
      show Str.ofString "RPAR" = Str.mk ⟨[nat_lit 82, nat_lit 80, nat_lit 65, nat_lit 82]⟩ from rfl,
      show Str.ofString "LSQB" = Str.mk ⟨[nat_lit 76, nat_lit 83, nat_lit 81, nat_lit 66]⟩ from rfl,
      show Str.ofString "RSQB" = Str.mk ⟨[nat_lit 82, nat_lit 83, nat_lit 81, nat_lit 66]⟩ from rfl,
      show Str.ofString "COLON" = Str.mk ⟨[nat_lit 67, nat_lit 79, nat_lit 76, nat_lit 79, nat_lit 78]⟩ from rfl,
      show Str.ofString "COMMA" = Str.mk ⟨[nat_lit 67, nat_lit 79, nat_lit 77, nat_lit 77, nat_lit 65]⟩ from rfl,
      show Str.ofString "SEMI" = Str.mk ⟨[nat_lit 83, nat_lit 69, nat_lit 77, nat_lit 73]⟩ from rfl,
      show Str.ofString "PLUS" = Str.mk ⟨[nat_lit 80, nat_lit 76, nat_lit 85, nat_lit 83]⟩ from rfl,
      show Str.ofString "MINUS" = Str.mk ⟨[nat_lit 77, nat_lit 73, nat_lit 78, nat_lit 85, nat_lit 83]⟩ from rfl,
      show Str.ofString "STAR" = Str.mk ⟨[nat_lit 83, nat_lit 84, nat_lit 65, nat_lit 82]⟩ from rfl,
      show Str.ofString "SLASH" = Str.mk ⟨[nat_lit 83, nat_lit 76, nat_lit 65, nat_lit 83, nat_lit 72]⟩ from rfl,
      show Str.ofString "VBAR" = Str.mk ⟨[nat_lit 86, nat_lit 66, nat_lit 65, nat_lit 82]⟩ from rfl,
      show Str.ofString "AMPER" = Str.mk ⟨[nat_lit 65, nat_lit 77, nat_lit 80, nat_lit 69, nat_lit 82]⟩ from rfl,
      show Str.ofString "LESS" = Str.mk ⟨[nat_lit 76, nat_lit 69, nat_lit 83, nat_lit 83]⟩ from rfl,
      show Str.ofString "GREATER" = Str.mk ⟨[nat_lit 71, nat_lit 82, nat_lit 69, nat_lit 65, nat_lit 84, nat_lit 69, nat_lit 82]⟩ from rfl,
      show Str.ofString "EQUAL" = Str.mk ⟨[nat_lit 69, nat_lit 81, nat_lit 85, nat_lit 65, nat_lit 76]⟩ from rfl,
      show Str.ofString "DOT" = Str.mk ⟨[nat_lit 68, nat_lit 79, nat_lit 84]⟩ from rfl,
      show Str.ofString "PERCENT" = Str.mk ⟨[nat_lit 80, nat_lit 69, nat_lit 82, nat_lit 67, nat_lit 69, nat_lit 78, nat_lit 84]⟩ from rfl,
      show Str.ofString "LBRACE" = Str.mk ⟨[nat_lit 76, nat_lit 66, nat_lit 82, nat_lit 65, nat_lit 67, nat_lit 69]⟩ from rfl,
      show Str.ofString "RBRACE" = Str.mk ⟨[nat_lit 82, nat_lit 66, nat_lit 82, nat_lit 65, nat_lit 67, nat_lit 69]⟩ from rfl,
      show Str.ofString "EQEQUAL" = Str.mk ⟨[nat_lit 69, nat_lit 81, nat_lit 69, nat_lit 81, nat_lit 85, nat_lit 65, nat_lit 76]⟩ from rfl,
      show Str.ofString "NOTEQUAL" = Str.mk ⟨[nat_lit 78, nat_lit 79, nat_lit 84, nat_lit 69, nat_lit 81, nat_lit 85, nat_lit 65, nat_lit 76]⟩ from rfl,
      show Str.ofString "LESSEQUAL" = Str.mk ⟨[nat_lit 76, nat_lit 69, nat_lit 83, nat_lit 83, nat_lit 69, nat_lit 81, nat_lit 85, nat_lit 65, nat_lit 76]⟩ from rfl,
      show Str.ofString "GREATEREQUAL" = Str.mk ⟨[nat_lit 71, nat_lit 82, nat_lit 69, nat_lit 65, nat_lit 84, nat_lit 69, nat_lit 82, nat_lit 69, nat_lit 81, nat_lit 85, nat_lit 65, nat_lit 76]⟩ from rfl,
      show Str.ofString "TILDE" = Str.mk ⟨[nat_lit 84, nat_lit 73, nat_lit 76, nat_lit 68, nat_lit 69]⟩ from rfl,
      show Str.ofString "CIRCUMFLEX" = Str.mk ⟨[nat_lit 67, nat_lit 73, nat_lit 82, nat_lit 67, nat_lit 85, nat_lit 77, nat_lit 70, nat_lit 76, nat_lit 69, nat_lit 88]⟩ from rfl,
      show Str.ofString "LEFTSHIFT" = Str.mk ⟨[nat_lit 76, nat_lit 69, nat_lit 70, nat_lit 84, nat_lit 83, nat_lit 72, nat_lit 73, nat_lit 70, nat_lit 84]⟩ from rfl,
      show Str.ofString "RIGHTSHIFT" = Str.mk ⟨[nat_lit 82, nat_lit 73, nat_lit 71, nat_lit 72, nat_lit 84, nat_lit 83, nat_lit 72, nat_lit 73, nat_lit 70, nat_lit 84]⟩ from rfl,
      show Str.ofString "DOUBLESTAR" = Str.mk ⟨[nat_lit 68, nat_lit 79, nat_lit 85, nat_lit 66, nat_lit 76, nat_lit 69, nat_lit 83, nat_lit 84, nat_lit 65, nat_lit 82]⟩ from rfl,
      show Str.ofString "PLUSEQUAL" = Str.mk ⟨[nat_lit 80, nat_lit 76, nat_lit 85, nat_lit 83, nat_lit 69, nat_lit 81, nat_lit 85, nat_lit 65, nat_lit 76]⟩ from rfl,
      show Str.ofString "MINEQUAL" = Str.mk ⟨[nat_lit 77, nat_lit 73, nat_lit 78, nat_lit 69, nat_lit 81, nat_lit 85, nat_lit 65, nat_lit 76]⟩ from rfl,
      show Str.ofString "STAREQUAL" = Str.mk ⟨[nat_lit 83, nat_lit 84, nat_lit 65, nat_lit 82, nat_lit 69, nat_lit 81, nat_lit 85, nat_lit 65, nat_lit 76]⟩ from rfl,
      show Str.ofString "SLASHEQUAL" = Str.mk ⟨[nat_lit 83, nat_lit 76, nat_lit 65, nat_lit 83, nat_lit 72, nat_lit 69, nat_lit 81, nat_lit 85, nat_lit 65, nat_lit 76]⟩ from rfl,
      show Str.ofString "PERCENTEQUAL" = Str.mk ⟨[nat_lit 80, nat_lit 69, nat_lit 82, nat_lit 67, nat_lit 69, nat_lit 78, nat_lit 84, nat_lit 69, nat_lit 81, nat_lit 85, nat_lit 65, nat_lit 76]⟩ from rfl,
      show Str.ofString "AMPEREQUAL" = Str.mk ⟨[nat_lit 65, nat_lit 77, nat_lit 80, nat_lit 69, nat_lit 82, nat_lit 69, nat_lit 81, nat_lit 85, nat_lit 65, nat_lit 76]⟩ from rfl,
      show Str.ofString "VBAREQUAL" = Str.mk ⟨[nat_lit 86, nat_lit 66, nat_lit 65, nat_lit 82, nat_lit 69, nat_lit 81, nat_lit 85, nat_lit 65, nat_lit 76]⟩ from rfl,
      show Str.ofString "CIRCUMFLEXEQUAL" = Str.mk ⟨[nat_lit 67, nat_lit 73, nat_lit 82, nat_lit 67, nat_lit 85, nat_lit 77, nat_lit 70, nat_lit 76, nat_lit 69, nat_lit 88, nat_lit 69, nat_lit 81, nat_lit 85, nat_lit 65, nat_lit 76]⟩ from rfl,
      show Str.ofString "LEFTSHIFTEQUAL" = Str.mk ⟨[nat_lit 76, nat_lit 69, nat_lit 70, nat_lit 84, nat_lit 83, nat_lit 72, nat_lit 73, nat_lit 70, nat_lit 84, nat_lit 69, nat_lit 81, nat_lit 85, nat_lit 65, nat_lit 76]⟩ from rfl,
      show Str.ofString "RIGHTSHIFTEQUAL" = Str.mk ⟨[nat_lit 82, nat_lit 73, nat_lit 71, nat_lit 72, nat_lit 84, nat_lit 83, nat_lit 72, nat_lit 73, nat_lit 70, nat_lit 84, nat_lit 69, nat_lit 81, nat_lit 85, nat_lit 65, nat_lit 76]⟩ from rfl,
      show Str.ofString "DOUBLESTAREQUAL" = Str.mk ⟨[nat_lit 68, nat_lit 79, nat_lit 85, nat_lit 66, nat_lit 76, nat_lit 69, nat_lit 83, nat_lit 84, nat_lit 65, nat_lit 82, nat_lit 69, nat_lit 81, nat_lit 85, nat_lit 65, nat_lit 76]⟩ from rfl,
      show Str.ofString "DOUBLESLASH" = Str.mk ⟨[nat_lit 68, nat_lit 79, nat_lit 85, nat_lit 66, nat_lit 76, nat_lit 69, nat_lit 83, nat_lit 76, nat_lit 65, nat_lit 83, nat_lit 72]⟩ from rfl,
      show Str.ofString "DOUBLESLASHEQUAL" = Str.mk ⟨[nat_lit 68, nat_lit 79, nat_lit 85, nat_lit 66, nat_lit 76, nat_lit 69, nat_lit 83, nat_lit 76, nat_lit 65, nat_lit 83, nat_lit 72, nat_lit 69, nat_lit 81, nat_lit 85, nat_lit 65, nat_lit 76]⟩ from rfl,
      show Str.ofString "AT" = Str.mk ⟨[nat_lit 65, nat_lit 84]⟩ from rfl,
      show Str.ofString "ATEQUAL" = Str.mk ⟨[nat_lit 65, nat_lit 84, nat_lit 69, nat_lit 81, nat_lit 85, nat_lit 65, nat_lit 76]⟩ from rfl,
      show Str.ofString "RARROW" = Str.mk ⟨[nat_lit 82, nat_lit 65, nat_lit 82, nat_lit 82, nat_lit 79, nat_lit 87]⟩ from rfl,
      show Str.ofString "ELLIPSIS" = Str.mk ⟨[nat_lit 69, nat_lit 76, nat_lit 76, nat_lit 73, nat_lit 80, nat_lit 83, nat_lit 73, nat_lit 83]⟩ from rfl,
      show Str.ofString "COLONEQUAL" = Str.mk ⟨[nat_lit 67, nat_lit 79, nat_lit 76, nat_lit 79, nat_lit 78, nat_lit 69, nat_lit 81, nat_lit 85, nat_lit 65, nat_lit 76]⟩ from rfl,
      show Str.ofString "EXCLAMATION" = Str.mk ⟨[nat_lit 69, nat_lit 88, nat_lit 67, nat_lit 76, nat_lit 65, nat_lit 77, nat_lit 65, nat_lit 84, nat_lit 73, nat_lit 79, nat_lit 78]⟩ from rfl,
      show Str.ofString "EXACT_TOKEN_TYPES" = Str.mk ⟨[nat_lit 69, nat_lit 88, nat_lit 65, nat_lit 67, nat_lit 84, nat_lit 95, nat_lit 84, nat_lit 79, nat_lit 75, nat_lit 69, nat_lit 78, nat_lit 95, nat_lit 84, nat_lit 89, nat_lit 80, nat_lit 69, nat_lit 83]⟩ from rfl,
      show Str.ofString "!" = Str.mk ⟨[nat_lit 33]⟩ from rfl,
      show Str.ofString "!=" = Str.mk ⟨[nat_lit 33, nat_lit 61]⟩ from rfl,
      show Str.ofString "%" = Str.mk ⟨[nat_lit 37]⟩ from rfl,
      show Str.ofString "%=" = Str.mk ⟨[nat_lit 37, nat_lit 61]⟩ from rfl,
      show Str.ofString "&" = Str.mk ⟨[nat_lit 38]⟩ from rfl,
      show Str.ofString "&=" = Str.mk ⟨[nat_lit 38, nat_lit 61]⟩ from rfl,
      show Str.ofString "(" = Str.mk ⟨[nat_lit 40]⟩ from rfl,
      show Str.ofString ")" = Str.mk ⟨[nat_lit 41]⟩ from rfl,
      show Str.ofString "*" = Str.mk ⟨[nat_lit 42]⟩ from rfl,
      show Str.ofString "**" = Str.mk ⟨[nat_lit 42, nat_lit 42]⟩ from rfl,
      show Str.ofString "**=" = Str.mk ⟨[nat_lit 42, nat_lit 42, nat_lit 61]⟩ from rfl,
      show Str.ofString "*=" = Str.mk ⟨[nat_lit 42, nat_lit 61]⟩ from rfl,
      show Str.ofString "+" = Str.mk ⟨[nat_lit 43]⟩ from rfl,
      show Str.ofString "+=" = Str.mk ⟨[nat_lit 43, nat_lit 61]⟩ from rfl,
      show Str.ofString "," = Str.mk ⟨[nat_lit 44]⟩ from rfl,
      show Str.ofString "-" = Str.mk ⟨[nat_lit 45]⟩ from rfl,
      show Str.ofString "-=" = Str.mk ⟨[nat_lit 45, nat_lit 61]⟩ from rfl,
      show Str.ofString "->" = Str.mk ⟨[nat_lit 45, nat_lit 62]⟩ from rfl,
      show Str.ofString "." = Str.mk ⟨[nat_lit 46]⟩ from rfl,
      show Str.ofString "/" = Str.mk ⟨[nat_lit 47]⟩ from rfl,
      show Str.ofString "//" = Str.mk ⟨[nat_lit 47, nat_lit 47]⟩ from rfl,
      show Str.ofString "//=" = Str.mk ⟨[nat_lit 47, nat_lit 47, nat_lit 61]⟩ from rfl,
      show Str.ofString "/=" = Str.mk ⟨[nat_lit 47, nat_lit 61]⟩ from rfl,
      show Str.ofString ":" = Str.mk ⟨[nat_lit 58]⟩ from rfl,
      show Str.ofString ":=" = Str.mk ⟨[nat_lit 58, nat_lit 61]⟩ from rfl,
      show Str.ofString ";" = Str.mk ⟨[nat_lit 59]⟩ from rfl,
      show Str.ofString "<" = Str.mk ⟨[nat_lit 60]⟩ from rfl,
      show Str.ofString "<<" = Str.mk ⟨[nat_lit 60, nat_lit 60]⟩ from rfl,
      show Str.ofString "<<=" = Str.mk ⟨[nat_lit 60, nat_lit 60, nat_lit 61]⟩ from rfl,
      show Str.ofString "<=" = Str.mk ⟨[nat_lit 60, nat_lit 61]⟩ from rfl,
      show Str.ofString "=" = Str.mk ⟨[nat_lit 61]⟩ from rfl,
      show Str.ofString "==" = Str.mk ⟨[nat_lit 61, nat_lit 61]⟩ from rfl,
      show Str.ofString ">" = Str.mk ⟨[nat_lit 62]⟩ from rfl,
      show Str.ofString ">=" = Str.mk ⟨[nat_lit 62, nat_lit 61]⟩ from rfl,
      show Str.ofString ">>" = Str.mk ⟨[nat_lit 62, nat_lit 62]⟩ from rfl,
      show Str.ofString ">>=" = Str.mk ⟨[nat_lit 62, nat_lit 62, nat_lit 61]⟩ from rfl,
      show Str.ofString "@" = Str.mk ⟨[nat_lit 64]⟩ from rfl,
      show Str.ofString "@=" = Str.mk ⟨[nat_lit 64, nat_lit 61]⟩ from rfl,
      show Str.ofString "[" = Str.mk ⟨[nat_lit 91]⟩ from rfl,
      show Str.ofString "]" = Str.mk ⟨[nat_lit 93]⟩ from rfl,
      show Str.ofString "^" = Str.mk ⟨[nat_lit 94]⟩ from rfl,
      show Str.ofString "^=" = Str.mk ⟨[nat_lit 94, nat_lit 61]⟩ from rfl,
      show Str.ofString "{" = Str.mk ⟨[nat_lit 123]⟩ from rfl,
      show Str.ofString "|" = Str.mk ⟨[nat_lit 124]⟩ from rfl,
      show Str.ofString "|=" = Str.mk ⟨[nat_lit 124, nat_lit 61]⟩ from rfl,
      show Str.ofString "}" = Str.mk ⟨[nat_lit 125]⟩ from rfl,
      show Str.ofString "~" = Str.mk ⟨[nat_lit 126]⟩ from rfl,
      show Str.ofString "law_qu0053_01" = Str.mk ⟨[nat_lit 108, nat_lit 97, nat_lit 119, nat_lit 95, nat_lit 113, nat_lit 117, nat_lit 48, nat_lit 48, nat_lit 53, nat_lit 51, nat_lit 95, nat_lit 48, nat_lit 49]⟩ from rfl,
      show Str.ofString "_law_patterns" = Str.mk ⟨[nat_lit 95, nat_lit 108, nat_lit 97, nat_lit 119, nat_lit 95, nat_lit 112, nat_lit 97, nat_lit 116, nat_lit 116, nat_lit 101, nat_lit 114, nat_lit 110, nat_lit 115]⟩ from rfl,
      show Str.ofString "chain" = Str.mk ⟨[nat_lit 99, nat_lit 104, nat_lit 97, nat_lit 105, nat_lit 110]⟩ from rfl,
      show Str.ofString "sign" = Str.mk ⟨[nat_lit 115, nat_lit 105, nat_lit 103, nat_lit 110]⟩ from rfl,
      show Str.ofString "...=" = Str.mk ⟨[nat_lit 46, nat_lit 46, nat_lit 46, nat_lit 61]⟩ from rfl,
      show Str.ofString "_law_taken" = Str.mk ⟨[nat_lit 95, nat_lit 108, nat_lit 97, nat_lit 119, nat_lit 95, nat_lit 116, nat_lit 97, nat_lit 107, nat_lit 101, nat_lit 110]⟩ from rfl,
      show Str.ofString "every" = Str.mk ⟨[nat_lit 101, nat_lit 118, nat_lit 101, nat_lit 114, nat_lit 121]⟩ from rfl,
      show Str.ofString "_law_ways" = Str.mk ⟨[nat_lit 95, nat_lit 108, nat_lit 97, nat_lit 119, nat_lit 95, nat_lit 119, nat_lit 97, nat_lit 121, nat_lit 115]⟩ from rfl,
      show Str.ofString "board" = Str.mk ⟨[nat_lit 98, nat_lit 111, nat_lit 97, nat_lit 114, nat_lit 100]⟩ from rfl,
      show Str.ofString "ways" = Str.mk ⟨[nat_lit 119, nat_lit 97, nat_lit 121, nat_lit 115]⟩ from rfl,
      show Str.ofString "row" = Str.mk ⟨[nat_lit 114, nat_lit 111, nat_lit 119]⟩ from rfl,
      show Str.ofString "way" = Str.mk ⟨[nat_lit 119, nat_lit 97, nat_lit 121]⟩ from rfl,
      show Str.ofString "place" = Str.mk ⟨[nat_lit 112, nat_lit 108, nat_lit 97, nat_lit 99, nat_lit 101]⟩ from rfl,
      show Str.ofString "range" = Str.mk ⟨[nat_lit 114, nat_lit 97, nat_lit 110, nat_lit 103, nat_lit 101]⟩ from rfl,
      show Str.ofString ".0" = Str.mk ⟨[nat_lit 46, nat_lit 48]⟩ from rfl,
      show Str.ofString "sizes" = Str.mk ⟨[nat_lit 115, nat_lit 105, nat_lit 122, nat_lit 101, nat_lit 115]⟩ from rfl,
      show Str.ofString "count" = Str.mk ⟨[nat_lit 99, nat_lit 111, nat_lit 117, nat_lit 110, nat_lit 116]⟩ from rfl,
      show Str.ofString "size" = Str.mk ⟨[nat_lit 115, nat_lit 105, nat_lit 122, nat_lit 101]⟩ from rfl,
      show Str.ofString "fast" = Str.mk ⟨[nat_lit 102, nat_lit 97, nat_lit 115, nat_lit 116]⟩ from rfl,
      show Str.ofString "_law_product" = Str.mk ⟨[nat_lit 95, nat_lit 108, nat_lit 97, nat_lit 119, nat_lit 95, nat_lit 112, nat_lit 114, nat_lit 111, nat_lit 100, nat_lit 117, nat_lit 99, nat_lit 116]⟩ from rfl,
      show Str.ofString "counts" = Str.mk ⟨[nat_lit 99, nat_lit 111, nat_lit 117, nat_lit 110, nat_lit 116, nat_lit 115]⟩ from rfl,
      show Str.ofString "base" = Str.mk ⟨[nat_lit 98, nat_lit 97, nat_lit 115, nat_lit 101]⟩ from rfl,
      show Str.ofString "number" = Str.mk ⟨[nat_lit 110, nat_lit 117, nat_lit 109, nat_lit 98, nat_lit 101, nat_lit 114]⟩ from rfl,
      show Str.ofString "_law_rests" = Str.mk ⟨[nat_lit 95, nat_lit 108, nat_lit 97, nat_lit 119, nat_lit 95, nat_lit 114, nat_lit 101, nat_lit 115, nat_lit 116, nat_lit 115]⟩ from rfl,
      show Str.ofString "turn" = Str.mk ⟨[nat_lit 116, nat_lit 117, nat_lit 114, nat_lit 110]⟩ from rfl,
      show Str.ofString "rests" = Str.mk ⟨[nat_lit 114, nat_lit 101, nat_lit 115, nat_lit 116, nat_lit 115]⟩ from rfl,
      show Str.ofString "less" = Str.mk ⟨[nat_lit 108, nat_lit 101, nat_lit 115, nat_lit 115]⟩ from rfl,
      show Str.ofString "rest" = Str.mk ⟨[nat_lit 114, nat_lit 101, nat_lit 115, nat_lit 116]⟩ from rfl,
      show Str.ofString "law" = Str.mk ⟨[nat_lit 108, nat_lit 97, nat_lit 119]⟩ from rfl,
      show Str.ofString "script" = Str.mk ⟨[nat_lit 115, nat_lit 99, nat_lit 114, nat_lit 105, nat_lit 112, nat_lit 116]⟩ from rfl,
      show Str.ofString "starts" = Str.mk ⟨[nat_lit 115, nat_lit 116, nat_lit 97, nat_lit 114, nat_lit 116, nat_lit 115]⟩ from rfl,
      show Str.ofString "numbers" = Str.mk ⟨[nat_lit 110, nat_lit 117, nat_lit 109, nat_lit 98, nat_lit 101, nat_lit 114, nat_lit 115]⟩ from rfl,
      show Str.ofString "sum" = Str.mk ⟨[nat_lit 115, nat_lit 117, nat_lit 109]⟩ from rfl,
      show Str.ofString "total" = Str.mk ⟨[nat_lit 116, nat_lit 111, nat_lit 116, nat_lit 97, nat_lit 108]⟩ from rfl,
      show Str.ofString "<>*/" = Str.mk ⟨[nat_lit 60, nat_lit 62, nat_lit 42, nat_lit 47]⟩ from rfl,
      show Str.ofString "told" = Str.mk ⟨[nat_lit 116, nat_lit 111, nat_lit 108, nat_lit 100]⟩ from rfl,
      show Str.ofString "names" = Str.mk ⟨[nat_lit 110, nat_lit 97, nat_lit 109, nat_lit 101, nat_lit 115]⟩ from rfl,
      show Str.ofString "text" = Str.mk ⟨[nat_lit 116, nat_lit 101, nat_lit 120, nat_lit 116]⟩ from rfl,
      show Str.ofString "kinds" = Str.mk ⟨[nat_lit 107, nat_lit 105, nat_lit 110, nat_lit 100, nat_lit 115]⟩ from rfl,
      show Str.ofString "operators" = Str.mk ⟨[nat_lit 111, nat_lit 112, nat_lit 101, nat_lit 114, nat_lit 97, nat_lit 116, nat_lit 111, nat_lit 114, nat_lit 115]⟩ from rfl,
      show Str.ofString "get" = Str.mk ⟨[nat_lit 103, nat_lit 101, nat_lit 116]⟩ from rfl,
      show Str.ofString "kind" = Str.mk ⟨[nat_lit 107, nat_lit 105, nat_lit 110, nat_lit 100]⟩ from rfl,
      show Str.ofString "" = Str.mk ⟨[]⟩ from rfl,
      show Str.ofString "patterns" = Str.mk ⟨[nat_lit 112, nat_lit 97, nat_lit 116, nat_lit 116, nat_lit 101, nat_lit 114, nat_lit 110, nat_lit 115]⟩ from rfl,
      show Str.ofString "seen" = Str.mk ⟨[nat_lit 115, nat_lit 101, nat_lit 101, nat_lit 110]⟩ from rfl,
      show Str.ofString "pattern" = Str.mk ⟨[nat_lit 112, nat_lit 97, nat_lit 116, nat_lit 116, nat_lit 101, nat_lit 114, nat_lit 110]⟩ from rfl,
      show Str.ofString "sorted" = Str.mk ⟨[nat_lit 115, nat_lit 111, nat_lit 114, nat_lit 116, nat_lit 101, nat_lit 100]⟩ from rfl,
      show Str.ofString "refused" = Str.mk ⟨[nat_lit 114, nat_lit 101, nat_lit 102, nat_lit 117, nat_lit 115, nat_lit 101, nat_lit 100]⟩ from rfl,
      show Str.ofString "cell" = Str.mk ⟨[nat_lit 99, nat_lit 101, nat_lit 108, nat_lit 108]⟩ from rfl,
      show Str.ofString "/claim/cut.py" = Str.mk ⟨[nat_lit 47, nat_lit 99, nat_lit 108, nat_lit 97, nat_lit 105, nat_lit 109, nat_lit 47, nat_lit 99, nat_lit 117, nat_lit 116, nat_lit 46, nat_lit 112, nat_lit 121]⟩ from rfl]
    rfl
  case f => exact fun p _ => p
set_option maxRecDepth 100000 in
set_option maxHeartbeats 8000000 in
theorem pq_eq : PySem.Challenge.pw_qu0053_01 = pq := by kernel_rfl
noncomputable def rr : OpenLaw := { prog := pq, name := Str.mk ⟨[nat_lit 108, nat_lit 97, nat_lit 119]⟩, about := [Str.mk ⟨[nat_lit 105, nat_lit 110, nat_lit 116, nat_lit 95, nat_lit 100, nat_lit 105, nat_lit 118, nat_lit 109, nat_lit 111, nat_lit 100]⟩], foot := nat_lit 6, most := some (nat_lit 63), bound := none, writes := false }
theorem rr_eq : PySem.Challenge.rw_qu0053_01 = rr := by kernel_rfl
set_option maxRecDepth 100000 in
set_option maxHeartbeats 8000000 in
open_shared hs for (by
  refine (?f : ∀ p : Program, Mine.pq = p → Program) ?p ?h
  case h => conv => lhs; whnf
  case f => exact fun p _ => p) leaving 0
noncomputable def KK : Params → Frag := fun P => (nat_lit 2, PySem.W.boot_o_2 P) :: (nat_lit 3, Mine.hs.o_67 P) :: (nat_lit 6, PySem.W.boot_o_6 P) :: (nat_lit 15, Mine.hs.o_7 P) :: (nat_lit 17, Mine.hs.o_9 P) :: (nat_lit 18, Mine.hs.o_10 P) :: (nat_lit 20, Mine.hs.o_12 P) :: (nat_lit 21, Mine.hs.o_13 P) :: (nat_lit 22, Mine.hs.o_14 P) :: (nat_lit 24, Mine.hs.o_16 P) :: (nat_lit 25, Mine.hs.o_17 P) :: (nat_lit 27, Mine.hs.o_19 P) :: (nat_lit 28, Mine.hs.o_20 P) :: (nat_lit 29, Mine.hs.o_21 P) :: (nat_lit 31, Mine.hs.o_23 P) :: (nat_lit 32, Mine.hs.o_24 P) :: (nat_lit 34, Mine.hs.o_26 P) :: (nat_lit 35, Mine.hs.o_27 P) :: (nat_lit 36, Mine.hs.o_28 P) :: (nat_lit 38, Mine.hs.o_30 P) :: (nat_lit 39, Mine.hs.o_31 P) :: (nat_lit 41, Mine.hs.o_33 P) :: (nat_lit 42, Mine.hs.o_34 P) :: (nat_lit 43, Mine.hs.o_35 P) :: (nat_lit 45, Mine.hs.o_37 P) :: (nat_lit 46, Mine.hs.o_38 P) :: (nat_lit 48, Mine.hs.o_40 P) :: (nat_lit 49, Mine.hs.o_41 P) :: (nat_lit 50, Mine.hs.o_42 P) :: (nat_lit 52, Mine.hs.o_44 P) :: (nat_lit 53, Mine.hs.o_45 P) :: (nat_lit 55, Mine.hs.o_47 P) :: (nat_lit 56, Mine.hs.o_48 P) :: (nat_lit 57, Mine.hs.o_49 P) :: (nat_lit 59, Mine.hs.o_51 P) :: (nat_lit 60, Mine.hs.o_52 P) :: (nat_lit 62, Mine.hs.o_54 P) :: (nat_lit 63, Mine.hs.o_55 P) :: (nat_lit 64, Mine.hs.o_61 P) :: (nat_lit 67, Mine.hs.o_69 P) :: (nat_lit 69, Mine.hs.o_71 P) :: (nat_lit 70, Mine.hs.o_72 P) :: (nat_lit 72, Mine.hs.o_74 P) :: (nat_lit 73, Mine.hs.o_75 P) :: (nat_lit 74, Mine.hs.o_76 P) :: (nat_lit 76, Mine.hs.o_78 P) :: (nat_lit 77, Mine.hs.o_79 P) :: (nat_lit 79, Mine.hs.o_81 P) :: (nat_lit 80, Mine.hs.o_82 P) :: (nat_lit 81, Mine.hs.o_83 P) :: (nat_lit 84, Mine.hs.o_86 P) :: (nat_lit 85, Mine.hs.o_87 P) :: (nat_lit 86, Mine.hs.o_88 P) :: (nat_lit 88, Mine.hs.o_90 P) :: (nat_lit 89, Mine.hs.o_91 P) :: (nat_lit 91, Mine.hs.o_93 P) :: (nat_lit 92, Mine.hs.o_94 P) :: (nat_lit 93, Mine.hs.o_95 P) :: (nat_lit 95, Mine.hs.o_97 P) :: (nat_lit 96, Mine.hs.o_98 P) :: (nat_lit 98, Mine.hs.o_100 P) :: (nat_lit 99, Mine.hs.o_101 P) :: (nat_lit 100, Mine.hs.o_102 P) :: (nat_lit 103, Mine.hs.o_105 P) :: (nat_lit 104, Mine.hs.o_106 P) :: []
end Mine
end PartT0

section PartB0
open PySem PySem.W PyProof.Rows PySem.Calls
namespace Mine
abbrev AA (dp un : Nat) (gd : Option (List Code)) (fr : Option (List Env)) : Around := { handled := none, depth := dp, frames := fr, guards := gd, units := un }
def Ext (h h' : Heap) : Prop := ∀ b o, h.get? b = some o → h'.get? b = some o
theorem Ext.refl (h : Heap) : Ext h h := fun _ _ e => e
theorem Ext.trans {a b c : Heap} (x : Ext a b) (y : Ext b c) : Ext a c := fun p o e => y p o (x p o e)
theorem Ext.isList {h h' : Heap} {a : Addr} {its : Array Value} (x : Ext h h') (l : h.IsList a its) : h'.IsList a its := l.at fun o e => x _ o e
theorem Ext.fr {h₀ h h' : Heap} {L : Addr} {m : Str → Option Value} (x : Ext h h') (F : Fr h₀ L h m) : Fr h₀ L h' m :=
  ⟨F.ns.keeps x, fun b o e => x b o (F.keep b o e), F.above⟩
theorem Ext.news {h₀ h h' : Heap} {L : Addr} {news : List (Addr × Obj)} (x : Ext h h') (N : News h₀ L h news) : News h₀ L h' news :=
  fun p hp => ⟨x _ _ (N p hp).1, (N p hp).2⟩

section
variable {prog : Program} {w : World} {A : Around} {s : Shared} {K : Frag}
theorem enter {R : Result → Shared → Prop} {name qual : Str} {params : Arguments} {body : List Stmt} {scope : Scope} {dV kV doc pm cdv ct oc : Value} {an od : Option Addr} {osl : Array (Option Value)} {f : Addr} {args : Args} {binds : List (Str × Value)}
    (X : K.In s.heap) (hlim : s.heap.NoLimit) (ho : K.lookup f = some ⟨oc, od, .func (fnOf name qual params body scope dV kV doc pm an cdv ct), osl⟩) (hcd : codeIn K cdv qual = true) (hroom : A.depth < recursionLimit)
    (hbind : BindsTo s (fnOf name qual params body scope dV kV doc pm an cdv ct) args binds) (hloc : ∀ y ∈ binds, scope.names.lookup y.1 = some .local)
    (h : ∀ L h₁, Fr s.heap L h₁ (fun y => binds.reverse.lookup y) →
      wpAny (model prog w) (A.deeper (envOf qual scope L f cdv)) (execs body (envOf qual scope L f cdv))
        (fun fl s' => R (.ok (.ret (match fl with | .ret v => v | _ => .none))) s')
        (fun e s' => wpAny (model prog w) (A.deeper (envOf qual scope L f cdv)) («leaving» (envOf qual scope L f cdv) e) (fun _ s'' => R (.error e) s'') (fun e' s'' => R (.error e') s'') s')
        { s with heap := h₁, toks := s.toks + binds.length })
    (hco : scope.isCoroutine = false) (hgen : scope.isGenerator = false) (hk : scope.kind = .function)
    (hcell : ∀ x ∈ scope.names, x.2 ≠ .cell) : codeAny (model prog w) A (.call (.ref f) args) R s :=
  codeAny_call_def (fd := fnOf name qual params body scope dV kV doc pm an cdv ct) (body := body) (binds := binds) hroom (X _ _ ho) rfl hlim (codeRec_of X hcd) rfl hbind hcell hloc (fun h₁ hns hk₁ => h _ h₁ ⟨hns, hk₁, Nat.le_refl _⟩) hco hgen hk
end
section
variable {prog : Program} {w : World} {A : Around} {s : Shared}
theorem enterF {R : Result → Shared → Prop} {name qual : Str} {params : Arguments} {body : List Stmt} {scope : Scope} {cl : List (Str × Addr)} {dV kV doc pm cdv ct : Value} {an : Option Addr} {fo : Obj} {f : Addr} {args : Args} {binds : List (Str × Value)} {g : Heap} {news : List (Addr × Obj)}
    (hg : Ext g s.heap) (hsz : g.objs.size ≤ s.heap.objs.size) (N0 : ∀ p ∈ news, s.heap.get? p.1 = some p.2 ∧ g.get? p.1 = none) (hlim : g.NoLimit)
    (ho : s.heap.get? f = some fo) (hd : fo.data = .func (fnX name qual params body scope cl dV kV doc pm an cdv ct)) (hcd : s.heap.CodeRec cdv qual) (hroom : A.depth < recursionLimit)
    (hbind : BindsTo s (fnX name qual params body scope cl dV kV doc pm an cdv ct) args binds) (hloc : ∀ y ∈ binds, scope.names.lookup y.1 = some .local)
    (h : ∀ L h₁, Fr g L h₁ (fun y => binds.reverse.lookup y) → News g L h₁ news → (∀ p ∈ news, p.1 < L) → s.heap.objs.size ≤ L → Ext s.heap h₁ →
      wpAny (model prog w) (A.deeper (envX qual scope L f cdv cl)) (execs body (envX qual scope L f cdv cl))
        (fun fl s' => R (.ok (.ret (match fl with | .ret v => v | _ => .none))) s')
        (fun e s' => wpAny (model prog w) (A.deeper (envX qual scope L f cdv cl)) («leaving» (envX qual scope L f cdv cl) e) (fun _ s'' => R (.error e) s'') (fun e' s'' => R (.error e') s'') s')
        { s with heap := h₁, toks := s.toks + binds.length })
    (hco : scope.isCoroutine = false) (hgen : scope.isGenerator = false) (hk : scope.kind = .function)
    (hcell : ∀ x ∈ scope.names, x.2 ≠ .cell) : codeAny (model prog w) A (.call (.ref f) args) R s :=
  codeAny_call_def (fd := fnX name qual params body scope cl dV kV doc pm an cdv ct) (body := body) (binds := binds) hroom ho hd (hlim.keeps hg) hcd rfl hbind hcell hloc
    (fun h₁ hns hk₁ => h _ h₁ ⟨hns, fun b o e => hk₁ b o (hg b o e), hsz⟩ (fun p hp => ⟨hk₁ _ _ (N0 p hp).1, Nat.ne_of_lt (Heap.lt_size (N0 p hp).1), (N0 p hp).2⟩) (fun p hp => Heap.lt_size (N0 p hp).1) (Nat.le_refl _) hk₁) hco hgen hk
end
section
variable {prog : Program} {w : World} {A : Around} {s : Shared}
theorem enterC {R : Result → Shared → Prop} {name qual : Str} {params : Arguments} {body : List Stmt} {scope : Scope} {dV kV doc pm cdv ct : Value} {an : Option Addr} {fo : Obj} {f : Addr} {args : Args} {binds : List (Str × Value)} {g : Heap} {news : List (Addr × Obj)}
    (hg : Ext g s.heap) (hsz : g.objs.size ≤ s.heap.objs.size) (N0 : ∀ p ∈ news, s.heap.get? p.1 = some p.2 ∧ g.get? p.1 = none) (hlim : g.NoLimit)
    (ho : s.heap.get? f = some fo) (hd : fo.data = .func (fnX name qual params body scope [] dV kV doc pm an cdv ct)) (hcd : s.heap.CodeRec cdv qual) (hroom : A.depth < recursionLimit)
    (hbind : BindsTo s (fnX name qual params body scope [] dV kV doc pm an cdv ct) args binds)
    (hkind : (binds.all fun y => scope.names.lookup y.1 == some .local || scope.names.lookup y.1 == some .cell) = true)
    (hnd : ((cellsFrom 0 scope.names []).map (·.1)).Nodup)
    (h : ∀ L h₁ tk cells, Fr g L h₁ (bindL (envOfC qual scope L f cdv).kindOf binds fun _ => none) → News g L h₁ (cells ++ news) →
      CellsAre (bindC (envOfC qual scope L f cdv).kindOf binds fun _ => none) (cellsFrom (L + 1) scope.names []) cells → (∀ p ∈ news, p.1 < L) → s.heap.objs.size ≤ L → Ext s.heap h₁ →
      wpAny (model prog w) (A.deeper (envOfC qual scope L f cdv)) (execs body (envOfC qual scope L f cdv))
        (fun fl s' => R (.ok (.ret (match fl with | .ret v => v | _ => .none))) s')
        (fun e s' => wpAny (model prog w) (A.deeper (envOfC qual scope L f cdv)) («leaving» (envOfC qual scope L f cdv) e) (fun _ s'' => R (.error e) s'') (fun e' s'' => R (.error e') s'') s')
        { s with heap := h₁, toks := tk })
    (hco : scope.isCoroutine = false) (hgen : scope.isGenerator = false) (hk : scope.kind = .function) : codeAny (model prog w) A (.call (.ref f) args) R s := by
  refine codeAny_call_function hroom ho hd hco hgen rfl hcd (hbind _ _ _ _ ?_)
  refine wpAny_newFunctionEnv_cells hk (kindsX hkind _) fun env' he s' x => ?_
  subst he
  refine ⟨(hlim.keeps hg).keeps x.toInCall.keep, codeAny_func ?_⟩
  obtain ⟨h₁, tk, rfl, _⟩ := x.done
  have hk₁ := x.toInCall.keep
  obtain ⟨cells, NC, Y⟩ := Cl.news (h₀ := s.heap) (Nat.le_refl _) fun n c hm => ⟨x.cell n c (lookup_of_mem_nodup (cellsFrom_names scope.names 0 (s.heap.objs.size + 1) [] [] rfl ▸ hnd) hm), x.above n c hm⟩
  refine h s.heap.objs.size h₁ tk cells ⟨x.toInCall.ns, fun b o e => hk₁ b o (hg b o e), hsz⟩ (fun p hp => ?_) Y (fun p hp => Heap.lt_size (N0 p hp).1) (Nat.le_refl _) hk₁
  rcases List.mem_append.mp hp with hp | hp
  · refine ⟨(NC p hp).1, (NC p hp).2.1, ?_⟩
    cases q : g.get? p.1 with
    | none => rfl
    | some o => have := hg _ _ q; rw [(NC p hp).2.2] at this; cases this
  · exact ⟨hk₁ _ _ (N0 p hp).1, Nat.ne_of_lt (Heap.lt_size (N0 p hp).1), (N0 p hp).2⟩
end
theorem Fr.but {g h h' : Heap} {L D : Addr} {m : Str → Option Value} (F : Fr g L h m) (hD : g.get? D = none) (hL : L ≠ D) (k : ∀ b o, b ≠ D → h.get? b = some o → h'.get? b = some o) : Fr g L h' m :=
  ⟨F.ns.at' fun o e => k _ o hL e, fun b o e => k b o (fun q => by rw [q, hD] at e; cases e) (F.keep b o e), F.above⟩
theorem News.keepOn {g h h' : Heap} {L D : Addr} {news : List (Addr × Obj)} (N : News g L h news) (k : ∀ b o, b ≠ D → h.get? b = some o → h'.get? b = some o) (hne : ∀ p ∈ news, p.1 ≠ D) : News g L h' news :=
  fun p hp => ⟨k _ _ (hne p hp) (N p hp).1, (N p hp).2⟩
theorem Fr.fresh {g h : Heap} {L x : Addr} {m : Str → Option Value} (F : Fr g L h m) (hx : h.get? x = none) : x ≠ L ∧ g.get? x = none := by
  refine ⟨fun q => ?_, ?_⟩
  · obtain ⟨o, _, _, e, _⟩ := F.ns
    rw [← q, hx] at e; cases e
  · cases q : g.get? x with
    | none => rfl
    | some o => have := F.keep _ _ q; rw [hx] at this; cases this
theorem News.one {g h : Heap} {L a : Addr} {o : Obj} {news : List (Addr × Obj)} (h1 : h.get? a = some o) (h2 : a ≠ L ∧ g.get? a = none) (N : News g L h news) : News g L h ((a, o) :: news) := by
  intro p hp
  rcases List.mem_cons.mp hp with rfl | hp
  · exact ⟨h1, h2⟩
  · exact N p hp
theorem ne_all {g h : Heap} {L r : Addr} {news : List (Addr × Obj)} (N : News g L h news) (hr : h.get? r = none) : ∀ p ∈ news, @Ne Nat r p.1 := by
  intro p hp q
  have := N.get hp
  rw [← q, hr] at this; cases this
theorem ne_mem {a b : Nat} (h : a ≠ b) : a ∉ [b] := by simpa using h
theorem ext_hide {h₀ h : Heap} {l : List Addr} (x : Ext h₀ h) (hl : ∀ a ∈ l, h₀.get? a = none) : Ext h₀ (hideAll h l) :=
  fun b o e => hideAll_get l (x b o e) fun q => by rw [hl b q] at e; cases e
theorem hide_ext (h : Heap) (l : List Addr) : Ext (hideAll h l) h := fun _ _ e => of_hideAll l e
theorem hide_back {h h' : Heap} {l : List Addr} (x : Ext (hideAll h l) h') {b : Addr} {o : Obj} (hb : b ∉ l) (e : h.get? b = some o) : h'.get? b = some o := x b o (hideAll_get l e hb)
theorem iteT {c : Bool} {P R : Prop} (h : c = true) (x : P) : if c = true then P else R := by rw [if_pos h]; exact x
theorem iteF {c : Bool} {P R : Prop} (h : c = false) (x : R) : if c = true then P else R := by rw [if_neg (by rw [h]; exact Bool.false_ne_true)]; exact x
structure Stop (P : Prop) : Prop where
  out : P
theorem stop_of {P : Prop} (h : Stop P) : P := h.out
theorem bits64 {i : Int} (h1 : -18446744073709551616 < i) (h2 : i < 18446744073709551616) : Builtin.Int.intBits i ≤ 64 :=
  intBits_le_iff.mpr (by omega)
theorem noPy {a b : Int} (h1 : -18446744073709551616 < b) (h2 : b < 18446744073709551616) : Builtin.divisionGoesByPylong a b = false := by
  refine PyProof.noPylong_of_log2 ?_
  by_cases h0 : b.natAbs = 0
  · rw [h0]; decide +kernel
  · have h64 : b.natAbs.log2 < 64 := (Nat.log2_lt h0).mpr (by omega)
    omega
theorem ret_int {Q : Value → Shared → Prop} {x y : Int} {t : Tok} {s : Shared} (e : x = y) (h : Q (.int y t) s) : Q (.int x t) s := e ▸ h
abbrev tup2 (a b : Value) : Obj := { cls := .type "tuple", data := .seq #[a, b] }
end Mine
end PartB0

section PartM1
open PySem
namespace Mine
theorem nat_and_high (x k : Nat) : x &&& (x / 2 ^ k * 2 ^ k) = x / 2 ^ k * 2 ^ k := by
  apply Nat.eq_of_testBit_eq
  intro i
  rw [Nat.testBit_and]
  rw [show x / 2 ^ k * 2 ^ k = (x >>> k) <<< k by rw [Nat.shiftLeft_eq, Nat.shiftRight_eq_div_pow]]
  rw [Nat.testBit_shiftLeft]
  by_cases h : i ≥ k
  · simp only [h, decide_true, Bool.true_and, Nat.testBit_shiftRight]
    rw [show k + (i - k) = i by omega]; simp
  · simp [h]
theorem xor_low {x : Int} (hx : 0 ≤ x) (k : Nat) : Builtin.bitXor x (x.fdiv (2 ^ k) * 2 ^ k) = x % 2 ^ k := by
  obtain ⟨a, rfl⟩ := Int.eq_ofNat_of_zero_le hx
  have h2 : ((2 : Int) ^ k) = ((2 ^ k : Nat) : Int) := by simp
  have e1 : ((a : Int).fdiv (2 ^ k)) * 2 ^ k = ((a / 2 ^ k * 2 ^ k : Nat) : Int) := by
    rw [h2, Int.fdiv_eq_ediv_of_nonneg _ (Int.natCast_nonneg _)]; simp
  rw [e1, PyProof.Rows.bitXor_and, PyProof.Rows.bitAnd_pp (Int.natCast_nonneg _) (Int.natCast_nonneg _), Int.toNat_natCast, Int.toNat_natCast, nat_and_high, h2]
  have := Nat.div_add_mod a (2 ^ k)
  rw [Nat.mul_comm] at this
  have h3 : ((a : Int) % ((2 ^ k : Nat) : Int)) = ((a % 2 ^ k : Nat) : Int) := by simp
  rw [h3]
  omega
/-- the number that digits make, the least first -/
def val (m : Nat) : List Int → Int
  | [] => 0
  | d :: ds => d + 2 ^ m * val m ds
theorem val_append (m : Nat) : ∀ a b : List Int, val m (a ++ b) = val m a + 2 ^ (m * a.length) * val m b
  | [], b => by simp [val]
  | d :: a, b => by
    simp only [List.cons_append, val, val_append m a b, List.length_cons]
    rw [Nat.mul_add, Nat.mul_one, Int.pow_add, Int.mul_add, Int.add_assoc, ← Int.mul_assoc, Int.mul_comm (2 ^ m) (2 ^ (m * a.length))]
theorem mids {lo hi mid : Int} {k m : Nat} (hlo : 0 ≤ lo) (hhi : hi = lo + k) (hk : 2 ≤ k) (hmid : (lo + hi) / 2 = mid) (hle : hi ≤ m) :
    ∃ a j : Nat, lo = a ∧ mid = (a + j : Nat) ∧ hi = (a + k : Nat) ∧ 0 < j ∧ j < k ∧ a + k ≤ m := by
  obtain ⟨a, rfl⟩ := Int.eq_ofNat_of_zero_le hlo
  exact ⟨a, k / 2, rfl, by omega, by omega, by omega, by omega, by omega⟩
theorem sub1 (a j : Nat) : ((a + j : Nat) : Int) - (a : Int) = j := by omega
theorem sub2 {a j k : Nat} (h : j < k) : (((a + k : Nat) : Int) - ((a + j : Nat) : Int)).toNat = k - j := by omega
theorem split_facts {x n sh up us low : Int} {j k : Nat} (hn : 0 < n) (hn2 : n ≤ 64) (hk2 : k ≤ 64) (hjk : j < k) (hsh : (j : Int) * n = sh)
    (hup : x.fdiv (2 ^ sh.toNat) = up) (hus : up * 2 ^ sh.toNat = us) (hlow : Builtin.bitXor x us = low) (hx : 0 ≤ x) (hx2 : x < 2 ^ (n.toNat * k)) :
    0 ≤ sh ∧ sh ≤ 10000 ∧ Builtin.Int.intBits up ≤ 10000 ∧ 0 ≤ low ∧ low < 2 ^ (n.toNat * j) ∧ 0 ≤ up ∧ up < 2 ^ (n.toNat * (k - j)) ∧ low + 2 ^ (n.toNat * j) * up = x := by
  obtain ⟨m, rfl⟩ := Int.eq_ofNat_of_zero_le (Int.le_of_lt hn)
  have hm2 : m ≤ 64 := Int.ofNat_le.mp hn2
  have hj2 : j ≤ 64 := Nat.le_of_lt (Nat.lt_of_lt_of_le hjk hk2)
  have e1 : sh = ((m * j : Nat) : Int) := by rw [← hsh, Int.mul_comm]; simp
  subst e1
  simp only [Int.toNat_natCast] at *
  have hmj : m * j ≤ 64 * 64 := Nat.mul_le_mul hm2 hj2
  rw [← hup] at hus
  rw [← hus, xor_low hx] at hlow
  have hp : (0 : Int) < 2 ^ (m * j) := Int.pow_pos (by decide)
  rw [Int.fdiv_eq_ediv_of_nonneg _ (Int.le_of_lt hp)] at hup
  have hup0 : 0 ≤ up := by rw [← hup]; exact Int.ediv_nonneg hx (Int.le_of_lt hp)
  have hk3 : m * k = m * j + m * (k - j) := by rw [← Nat.mul_add, Nat.add_sub_cancel' (Nat.le_of_lt hjk)]
  rw [hk3, Int.pow_add] at hx2
  have hup2 : up < 2 ^ (m * (k - j)) := by
    rw [← hup]; exact Int.ediv_lt_of_lt_mul hp (by rw [Int.mul_comm]; exact hx2)
  refine ⟨Int.natCast_nonneg _, Int.ofNat_le.mpr (Nat.le_trans hmj (by decide)), ?_, ?_, ?_, hup0, hup2, ?_⟩
  · refine intBits_le_iff.mpr ?_
    have h64 : m * (k - j) ≤ 64 * 64 := Nat.mul_le_mul hm2 (Nat.le_trans (Nat.sub_le k j) hk2)
    have h1 : up.natAbs < 2 ^ (m * (k - j)) := by
      have : ((up.natAbs : Nat) : Int) < ((2 ^ (m * (k - j)) : Nat) : Int) := by
        rw [Int.natAbs_of_nonneg hup0]; simpa using hup2
      exact Int.ofNat_lt.mp this
    exact Nat.lt_of_lt_of_le h1 (Nat.pow_le_pow_right (by decide) (Nat.le_trans h64 (by decide)))
  · rw [← hlow]; exact Int.emod_nonneg _ (Int.ne_of_gt hp)
  · rw [← hlow]; exact Int.emod_lt_of_pos _ hp
  · rw [← hlow, ← hup]; exact Int.emod_add_mul_ediv ..
theorem mid_take {ns js : List Int} {a b : Nat} (hj : a + js.length = b) (hb : b ≤ ns.length) : (ns.take a ++ js ++ ns.drop b).take b = ns.take a ++ js := by
  rw [List.take_append_of_le_length (by simp; omega), List.take_of_length_le (by simp; omega)]
theorem mid_drop {ns js : List Int} {a b c : Nat} (hj : a + js.length = b) (hb : b ≤ c) (hc : c ≤ ns.length) : (ns.take a ++ js ++ ns.drop b).drop c = ns.drop c := by
  rw [List.drop_append, List.drop_of_length_le (by simp; omega), List.nil_append, List.drop_drop]
  congr 1; simp; omega
theorem val_bound {m : Nat} : ∀ {ds : List Int}, (∀ d ∈ ds, 0 ≤ d ∧ d < 2 ^ m) → 0 ≤ val m ds ∧ val m ds < 2 ^ (m * ds.length)
  | [], _ => by simp [val]
  | d :: ds, h => by
    have h1 := h d (.head _)
    have h2 := val_bound (m := m) (ds := ds) fun x hx => h x (.tail _ hx)
    have hp : (0 : Int) < 2 ^ m := Int.pow_pos (by decide)
    have h3 : 0 ≤ 2 ^ m * val m ds := Int.mul_nonneg (Int.le_of_lt hp) h2.1
    have h4 : 2 ^ m * (val m ds + 1) ≤ 2 ^ m * 2 ^ (m * ds.length) := Int.mul_le_mul_of_nonneg_left h2.2 (Int.le_of_lt hp)
    simp only [val, List.length_cons]
    rw [Nat.mul_add, Nat.mul_one, Nat.add_comm, Int.pow_add]
    rw [Int.mul_add, Int.mul_one] at h4
    exact ⟨by omega, by omega⟩
theorem bits_lt {x : Int} {e : Nat} (h0 : 0 ≤ x) (h : x < 2 ^ e) : Builtin.Int.intBits x ≤ e := by
  refine intBits_le_iff.mpr ?_
  have : ((x.natAbs : Nat) : Int) < ((2 ^ e : Nat) : Int) := by rw [Int.natAbs_of_nonneg h0]; simpa using h
  exact Int.ofNat_lt.mp this
/-- digits from lo on, k of them -/
def part (ns : List Int) (lo k : Nat) : List Int := (ns.drop lo).take k
theorem part_add (ns : List Int) (lo j k : Nat) : part ns lo (j + k) = part ns lo j ++ part ns (lo + j) k := by
  simp only [part, List.take_add, List.drop_drop]
theorem part_one {ns : List Int} {lo : Nat} (h : lo < ns.length) : part ns lo 1 = [ns.getD lo 0] := by
  simp only [part]
  rw [List.take_one, List.head?_drop]
  simp [List.getD, h]
theorem part_length {ns : List Int} {lo k : Nat} (h : lo + k ≤ ns.length) : (part ns lo k).length = k := by simp [part]; omega
theorem part_mem {ns : List Int} {lo k : Nat} {d : Int} (h : d ∈ part ns lo k) : d ∈ ns := List.mem_of_mem_drop (List.mem_of_mem_take h)
theorem join_facts {n sh : Int} {a j k : Nat} {ns : List Int} (hn : 0 < n) (hn2 : n ≤ 64) (hk2 : k ≤ 64) (hjk : j < k) (hsh : (j : Int) * n = sh) (hle : a + k ≤ ns.length)
    (hd : ∀ d ∈ ns, 0 ≤ d ∧ d < 2 ^ n.toNat) :
    0 ≤ sh ∧ sh ≤ 10000 ∧ Builtin.Int.intBits (val n.toNat (part ns (a + j) (k - j))) ≤ 10000 ∧
    val n.toNat (part ns (a + j) (k - j)) * 2 ^ sh.toNat + val n.toNat (part ns a j) = val n.toNat (part ns a k) := by
  obtain ⟨m, rfl⟩ := Int.eq_ofNat_of_zero_le (Int.le_of_lt hn)
  have hm2 : m ≤ 64 := Int.ofNat_le.mp hn2
  have hj2 : j ≤ 64 := Nat.le_of_lt (Nat.lt_of_lt_of_le hjk hk2)
  have e1 : sh = ((m * j : Nat) : Int) := by rw [← hsh, Int.mul_comm]; simp
  subst e1
  simp only [Int.toNat_natCast] at *
  have hmj : m * j ≤ 64 * 64 := Nat.mul_le_mul hm2 hj2
  have hkj := Nat.add_sub_cancel' (Nat.le_of_lt hjk)
  have hl2 : a + j + (k - j) ≤ ns.length := by rw [Nat.add_assoc, hkj]; exact hle
  refine ⟨Int.natCast_nonneg _, Int.ofNat_le.mpr (Nat.le_trans hmj (by decide)), ?_, ?_⟩
  · have hb := val_bound (m := m) (ds := part ns (a + j) (k - j)) fun d h => hd d (part_mem h)
    rw [part_length hl2] at hb
    have h64 : m * (k - j) ≤ 64 * 64 := Nat.mul_le_mul hm2 (Nat.le_trans (Nat.sub_le k j) hk2)
    exact Nat.le_trans (bits_lt hb.1 hb.2) (Nat.le_trans h64 (by decide))
  · have e : part ns a k = part ns a j ++ part ns (a + j) (k - j) := by rw [← part_add, hkj]
    rw [e, val_append, part_length (Nat.le_trans (Nat.add_le_add_left (Nat.le_of_lt hjk) a) hle), Int.mul_comm, Int.add_comm]

theorem lt_two_pow_bits {a : Int} (h : 0 ≤ a) : a < 2 ^ Builtin.Int.intBits a := by
  have := (intBits_le_iff (m := Builtin.Int.intBits a) (x := a)).mp (Nat.le_refl _)
  have h2 : ((a.natAbs : Nat) : Int) < ((2 ^ Builtin.Int.intBits a : Nat) : Int) := Int.ofNat_lt.mpr this
  rw [Int.natAbs_of_nonneg h] at h2
  simpa using h2
theorem i2d_facts {a n d : Int} (ha : 0 < a) (hn : 0 < n) (hd : ((Builtin.Int.intBits a : Int) + n - 1).fdiv n = d) : a < 2 ^ (n.toNat * d.toNat) := by
  refine Int.lt_of_lt_of_le (lt_two_pow_bits (Int.le_of_lt ha)) ?_
  have h2 : (0 : Int) ≤ Builtin.Int.intBits a := Int.natCast_nonneg _
  rw [Int.fdiv_eq_ediv_of_nonneg _ (Int.le_of_lt hn)] at hd
  have h3 := Int.mul_ediv_add_emod ((Builtin.Int.intBits a : Int) + n - 1) n
  have h4 := Int.emod_lt_of_pos ((Builtin.Int.intBits a : Int) + n - 1) hn
  rw [hd] at h3
  have h5 : (Builtin.Int.intBits a : Int) ≤ n * d := by omega
  have hd0 : 0 ≤ d := by rw [← hd]; exact Int.ediv_nonneg (by omega) (by omega)
  have h6 : Builtin.Int.intBits a ≤ n.toNat * d.toNat := by
    have : ((n.toNat * d.toNat : Nat) : Int) = n * d := by rw [Int.natCast_mul, Int.toNat_of_nonneg (by omega), Int.toNat_of_nonneg hd0]
    omega
  have h7 : ((2 ^ Builtin.Int.intBits a : Nat) : Int) ≤ ((2 ^ (n.toNat * d.toNat) : Nat) : Int) := Int.ofNat_le.mpr (Nat.pow_le_pow_right (by decide) h6)
  simpa using h7
theorem bits_pos {b : Int} (h : 0 < b) : (0 : Int) < Builtin.Int.intBits b := by
  unfold Builtin.Int.intBits
  rw [if_neg (by simp; omega)]; omega
/-- the number that digits make, the greatest first -/
def wal (m : Nat) (l : List Int) : Int := val m l.reverse
theorem wal_nil (m : Nat) : wal m [] = 0 := rfl
theorem wal_cons (m : Nat) (d : Int) (l : List Int) : wal m (d :: l) = d * 2 ^ (m * l.length) + wal m l := by
  simp only [wal, List.reverse_cons, val_append, val, List.length_reverse]
  rw [Int.mul_comm]; simp; rw [Int.mul_comm]; omega
theorem wal_snoc (m : Nat) (l : List Int) (q : Int) : wal m (l ++ [q]) = wal m l * 2 ^ m + q := by
  simp only [wal, List.reverse_append, List.reverse_cons, List.reverse_nil, List.nil_append, List.cons_append, val]
  rw [Int.mul_comm]; omega
theorem horner_step {a b rv d : Int} {m : Nat} {qs rs : List Int} (hb : 0 < b) (hr0 : 0 ≤ rv) (hr : rv < b) (hd0 : 0 ≤ d) (hd : d < 2 ^ m)
    (h : a = (b * wal m qs + rv) * 2 ^ (m * (d :: rs).length) + wal m (d :: rs)) :
    a = (b * wal m (qs ++ [(rv * 2 ^ m + d).fdiv b]) + (rv * 2 ^ m + d).fmod b) * 2 ^ (m * rs.length) + wal m rs ∧ 0 ≤ (rv * 2 ^ m + d).fdiv b ∧ (rv * 2 ^ m + d).fdiv b < 2 ^ m ∧ 0 ≤ (rv * 2 ^ m + d).fmod b ∧ (rv * 2 ^ m + d).fmod b < b := by
  have hp : (0 : Int) < 2 ^ m := Int.pow_pos (by decide)
  have hv : 0 ≤ rv * 2 ^ m + d := by have := Int.mul_nonneg hr0 (Int.le_of_lt hp); omega
  have hv2 : rv * 2 ^ m + d < b * 2 ^ m := by
    have : (rv + 1) * 2 ^ m ≤ b * 2 ^ m := Int.mul_le_mul_of_nonneg_right (by omega) (Int.le_of_lt hp)
    rw [Int.add_mul, Int.one_mul] at this; omega
  have e1 : (rv * 2 ^ m + d).fdiv b = (rv * 2 ^ m + d) / b := Int.fdiv_eq_ediv_of_nonneg _ (Int.le_of_lt hb)
  have e2 : (rv * 2 ^ m + d).fmod b = (rv * 2 ^ m + d) % b := Int.fmod_eq_emod_of_nonneg _ (Int.le_of_lt hb)
  rw [e1, e2]
  have h1 := Int.mul_ediv_add_emod (rv * 2 ^ m + d) b
  refine ⟨?_, Int.ediv_nonneg hv (Int.le_of_lt hb), Int.ediv_lt_of_lt_mul hb (by rw [Int.mul_comm (2 ^ m) b]; exact hv2), Int.emod_nonneg _ (Int.ne_of_gt hb), Int.emod_lt_of_pos _ hb⟩
  rw [wal_cons, List.length_cons, Nat.mul_add, Nat.mul_one, Int.pow_add] at h
  rw [wal_snoc, h]
  generalize (2 : Int) ^ (m * rs.length) = X
  generalize (rv * 2 ^ m + d) / b = q at *
  generalize (rv * 2 ^ m + d) % b = r at *
  generalize (2 : Int) ^ m = Y at *
  generalize wal m qs = W
  have : d = b * q + r - rv * Y := by omega
  subst this
  grind
theorem horner_end {a b rv : Int} {m : Nat} {qs : List Int} (hb : 0 < b) (hr0 : 0 ≤ rv) (hr : rv < b) (h : a = (b * wal m qs + rv) * 2 ^ (m * ([] : List Int).length) + wal m []) :
    wal m qs = a.fdiv b ∧ rv = a.fmod b := by
  have h1 : a = b * wal m qs + rv := by simpa [wal, val] using h
  rw [Int.fdiv_eq_ediv_of_nonneg _ (Int.le_of_lt hb), Int.fmod_eq_emod_of_nonneg _ (Int.le_of_lt hb), h1]
  constructor
  · rw [Int.add_comm, Int.add_mul_ediv_left _ _ (Int.ne_of_gt hb), Int.ediv_eq_zero_of_lt hr0 hr]; omega
  · rw [Int.add_comm, Int.add_mul_emod_self_left, Int.emod_eq_of_lt hr0 hr]
theorem dm_bits {b rv d : Int} (hb : 0 < b) (hb2 : b < 1000000000000) (hr0 : 0 ≤ rv) (hr : rv < b) (hd0 : 0 ≤ d) (hd : d < 2 ^ Builtin.Int.intBits b) : Builtin.Int.intBits (rv * 2 ^ Builtin.Int.intBits b + d) ≤ 3000 := by
  have h1 : Builtin.Int.intBits b ≤ 40 := intBits_le_iff.mpr (by omega)
  have hp : (0 : Int) < 2 ^ Builtin.Int.intBits b := Int.pow_pos (by decide)
  have h2 : (2 : Int) ^ Builtin.Int.intBits b ≤ 2 ^ 40 := by
    have h7 : ((2 ^ Builtin.Int.intBits b : Nat) : Int) ≤ ((2 ^ 40 : Nat) : Int) := Int.ofNat_le.mpr (Nat.pow_le_pow_right (by decide) h1)
    simpa using h7
  have h3 : rv * 2 ^ Builtin.Int.intBits b ≤ 1000000000000 * 2 ^ 40 := Int.mul_le_mul (by omega) h2 (Int.le_of_lt hp) (by decide)
  have h4 : 0 ≤ rv * 2 ^ Builtin.Int.intBits b := Int.mul_nonneg hr0 (Int.le_of_lt hp)
  have h5 : Builtin.Int.intBits (rv * 2 ^ Builtin.Int.intBits b + d) ≤ 100 := intBits_le_iff.mpr (by omega)
  omega
theorem ceil_le {x y : Int} (hx : 1 ≤ x) (hx2 : x ≤ 200) (hy : 8 ≤ y) : 0 < (x + y - 1) / y ∧ (x + y - 1) / y ≤ 64 := by
  constructor
  · have := (Int.le_ediv_iff_mul_le (a := 1) (b := x + y - 1) (c := y) (by omega)).mpr (by omega)
    omega
  · have h : (x + y - 1) / y < 65 := Int.ediv_lt_of_lt_mul (by omega) (by omega)
    omega
theorem size_le {a b : Int} (ha : 0 < a) (ha2 : a < 2 ^ 200) (hb : 128 ≤ b) :
    0 < ((Builtin.Int.intBits a : Int) + (Builtin.Int.intBits b : Int) - 1).fdiv (Builtin.Int.intBits b : Int) ∧ ((Builtin.Int.intBits a : Int) + (Builtin.Int.intBits b : Int) - 1).fdiv (Builtin.Int.intBits b : Int) ≤ 64 := by
  have h1 : Builtin.Int.intBits a ≤ 200 := bits_lt (Int.le_of_lt ha) ha2
  have h2 : 8 ≤ Builtin.Int.intBits b := by
    rcases Nat.lt_or_ge (Builtin.Int.intBits b) 8 with h | h
    · exfalso
      have h3 : Builtin.Int.intBits b ≤ 7 := by omega
      have := intBits_le_iff.mp h3
      omega
    · exact h
  have h0 := bits_pos ha
  rw [Int.fdiv_eq_ediv_of_nonneg _ (by omega)]
  exact ceil_le (by omega) (by omega) (by omega)
end Mine
end PartM1

section PartX0
open PySem PySem.W PyProof.Rows PySem.Calls
namespace Mine
def nth {α : Type} : Nat → List α → Option α
  | _, [] => none
  | 0, a :: _ => some a
  | n + 1, _ :: l => nth n l
def bodyOf : Option Stmt → List Stmt
  | some (.FunctionDef _ _ b _ _ _ _ _ _ _) => b
  | _ => []
def argsOf : Option Stmt → Arguments
  | some (.FunctionDef _ a _ _ _ _ _ _ _ _) => a
  | _ => { posonlyargs := [], args := [], vararg := none, kwonlyargs := [], kw_defaults := [], kwarg := none, defaults := [] }
def scopeOf : Option Stmt → Scope
  | some (.FunctionDef _ _ _ _ _ _ s _ _ _) => s
  | _ => { kind := .function, names := [], isGenerator := false, isCoroutine := false }
def in1 : Option Stmt := nth 1 (bodyOf (nth 4 PySem.Challenge.pw_qu0053_01.main.body))
def in2 : Option Stmt := nth 0 (bodyOf (nth 5 PySem.Challenge.pw_qu0053_01.main.body))
section
variable {M : Model} {A : Around} {E : Value → Shared → Prop} {s : Shared} {g : Heap} {L a : Addr} {m : Str → Option Value} {cn : Str} {cs : Scope} {ccd : Value} {cl : List (Str × Addr)} {x : Str} {pos : Pos} {v : Value} {Q : Value → Shared → Prop} {c : Addr}
theorem nameFree (hv : s.heap.IsCell c (some v)) (hc : cl.lookup x = some c) (h : Q v s)
    (hk : cs.kind = .function := by rfl) (hx : (envX cn cs L a ccd cl).kindOf x = some .free := by rfl) (hb : (x == ("__debug__" : Str)) = false := by decide) (hn : (x == ("__classdict__" : Str)) = false := by decide) :
    wpAny M A (eval (.Name x pos) (envX cn cs L a ccd cl)) Q E s := wpAny_Name (wpAny_loadName_free hk hx hc hv h hn) hb
end
variable {prog : Program} {w : World}
section
variable {A : Around} {E : Value → Shared → Prop} {s : Shared} {a b c : Int} {t u : Tok} {Q : Value → Shared → Prop}
theorem rsh1E (e : a / 2 = c) (h0 : 0 ≤ a) (h : Q (.int c s.toks) { s with toks := s.toks + 1 }) : wpAny (model prog w) A (binaryOp .RShift (.int a t) (.int 1 u)) Q E s := by
  subst e; exact wpAny_rshift1_int h0 h
theorem rshE (e : a.fdiv (2 ^ b.toNat) = c) (h0 : 0 ≤ b) (h : Q (.int c s.toks) { s with toks := s.toks + 1 }) : wpAny (model prog w) A (binaryOp .RShift (.int a t) (.int b u)) Q E s := by
  subst e; exact rshift_int h0 h
theorem lshE (e : a * 2 ^ b.toNat = c) (h0 : 0 ≤ b) (hb : Builtin.Int.intBits a ≤ 10000) (hb2 : b ≤ 10000) (h : Q (.int c s.toks) { s with toks := s.toks + 1 }) : wpAny (model prog w) A (binaryOp .LShift (.int a t) (.int b u)) Q E s := by
  subst e; exact lshift_int h0 (by omega) h
theorem mulE (e : a * b = c) (h1 : -18446744073709551616 < b) (h2 : b < 18446744073709551616) (h : Q (.int c s.toks) { s with toks := s.toks + 1 }) : wpAny (model prog w) A (binaryOp .Mult (.int a t) (.int b u)) Q E s := by
  subst e; exact mul_int h (hm := IntMulOk.of_right (bits64 h1 h2))
theorem xorE (e : Builtin.bitXor a b = c) (h : Q (.int c s.toks) { s with toks := s.toks + 1 }) : wpAny (model prog w) A (binaryOp .BitXor (.int a t) (.int b u)) Q E s := by
  subst e; exact xor_int h
end
abbrev lst (vs : List Value) (e : Nat) : Obj := { cls := .type "list", data := .seq vs.toArray e }
theorem rev_ind {A : Around} {E : Value → Shared → Prop} {h₀ : Heap} {env : Env} {x : Str} {body : List Stmt} {Q : Flow → Shared → Prop} {s : Shared} {I : Addr} {lp : Addr × Obj} (J : List Value → (Str → Option Value) → List (Addr × Obj) → Prop)
    (zero : ∀ m news, J [] m news → ∀ h tk, Fr h₀ env.locals h m → News h₀ env.locals h news → Q .next { s with heap := h, toks := tk })
    (succ : ∀ v r m news, J (v :: r) m news → ∀ (it : Obj) h tk, it.cls = .type "list_reverseiterator" → Fr h₀ env.locals h (fun y => if y = x then some v else m y) → News h₀ env.locals h ((I, it) :: news) →
      wpAny (model prog w) A (execs body env) (UnrPost h₀ env.locals { s with heap := h, toks := tk } I it (fun m' n' => lp ∈ n' ∧ J r m' n') Q) E { s with heap := h, toks := tk }) :
    ∀ ws m news, J ws m news → RevRest prog w A E h₀ env x body Q s I lp ws m news := by
  intro ws
  induction ws with
  | nil => intro m news hj; exact RevRest.zero (zero m news hj)
  | cons v r ih =>
    intro m news hj
    refine RevRest.succ fun it h tk hc F N => wpAny_mono (succ v r m news hj it h tk hc F N) (fun f s₂ q => ?_) fun _ _ e => e
    have up : UnrEnd h₀ env.locals { s with heap := h, toks := tk } I it (fun m' n' => lp ∈ n' ∧ J r m' n') s₂ → UnrEnd h₀ env.locals { s with heap := h, toks := tk } I it (fun m' n' => lp ∈ n' ∧ RevRest prog w A E h₀ env x body Q s I lp r m' n') s₂ :=
      fun ⟨h', tk', m', n', e, F', N', o, l, j⟩ => ⟨h', tk', m', n', e, F', N', o, l, ih m' n' j⟩
    cases f with
    | ret v => exact q
    | brk => exact q
    | next => exact up q
    | cont => exact up q
def forOf : Option Stmt → List Stmt
  | some (.For _ _ b _ _) => b
  | _ => []
theorem rr_ind {prog : Program} {w : World} {s : Shared} {h₀ : Heap} {A : Around} {E : Value → Shared → Prop} {env : Env} {x : Str} {body : List Stmt} {Q : Flow → Shared → Prop} {I : Addr} {a : Int} {n : Nat} (J : Nat → (Str → Option Value) → List (Addr × Obj) → Prop)
    (zero : ∀ m news, J n m news → ∀ h tk, Fr h₀ env.locals h m → News h₀ env.locals h news → Q .next { s with heap := h, toks := tk })
    (succ : ∀ i m news, i < n → J i m news → ∀ t h tk it, it.cls = .type "range_iterator" → Fr h₀ env.locals h (fun y => if y = x then some (.int (a + (i : Int)) t) else m y) → News h₀ env.locals h ((I, it) :: news) →
      wpAny (model prog w) A (execs body env) (UnrPost h₀ env.locals { s with heap := h, toks := tk } I it (J (i + 1)) Q) E { s with heap := h, toks := tk }) :
    ∀ k i m news, i + k = n → J i m news → RangeRest prog w A E h₀ env x body Q s I a n k i m news := by
  intro k
  induction k with
  | zero => intro i m news e hj; rw [show i = n from e] at hj; exact RangeRest.zero (zero m news hj)
  | succ k ih =>
    intro i m news e hj
    refine RangeRest.succ fun t h tk F N => wpAny_mono (succ i m news (by omega) hj t h tk _ rfl F N) (fun f s₂ q => ?_) fun _ _ e => e
    have up : UnrEnd h₀ env.locals { s with heap := h, toks := tk } I (itR (a + ((i + 1 : Nat) : Int)) ((n : Int) - ((i + 1 : Nat) : Int))) (J (i + 1)) s₂ →
        UnrEnd h₀ env.locals { s with heap := h, toks := tk } I (itR (a + ((i + 1 : Nat) : Int)) ((n : Int) - ((i + 1 : Nat) : Int))) (RangeRest prog w A E h₀ env x body Q s I a n k (i + 1)) s₂ :=
      fun ⟨h', tk', m', n', e', F', N', o, j⟩ => ⟨h', tk', m', n', e', F', N', o, ih (i + 1) m' n' (by omega) j⟩
    cases f with
    | ret v => exact q
    | brk => exact q
    | next => exact up q
    | cont => exact up q
theorem len3 {ns js : List Int} {a j : Nat} (h : js.length = j) (ham : a + j ≤ ns.length) : (ns.take a ++ js ++ ns.drop (a + j)).length = ns.length := by
  simp [h]; omega
theorem cast_lt {a j k : Nat} (h : j < k) : ((a + k : Nat) : Int) = ((a + j : Nat) : Int) + ((k - j : Nat) : Int) := by omega
end Mine
end PartX0

section PartF1
open PySem PySem.W PyProof.Rows PySem.Calls
namespace Mine
theorem offF1 : True := by w_top off; trivial
local macro_rules | `(tactic| walk_at "pad F1") => `(tactic| skip)
example : PySem.Challenge.rw_qu0053_01 = PySem.Challenge.rw_qu0053_01 ∧ KK = KK := by k_fill; exact ⟨rfl, rfl⟩
variable {prog : Program} {w : World} {dp un : Nat} {gd : Option (List Code)} {fr : Option (List Env)} {s : Shared} {p : Program} {loose : List Str} {mean : ExcName → Option Value} {mg mb : Str → Option Value} {Q : Value → Shared → Prop} {E : Value → Shared → Prop}

def pp (cs : List Int) (b : Int) : Nat → Int
  | 0 => 1
  | i + 1 => pp cs b i * (b + cs.getD i 0 - (i : Int))
inductive ProdJ (cs : List Int) (b : Int) (l : Addr) (i : Nat) (m : Str → Option Value) (nws : List (Addr × Obj)) : Prop
  | mk (t1 t3 : Tok) : nws = [] → m (Str.ofString "number") = some (.int (pp cs b i) t1) → m (Str.ofString "counts") = some (.ref l) → m (Str.ofString "base") = some (.int b t3) → ProdJ cs b l i m nws
theorem itemP {A : Around} {l : Addr} {value slice : Expr} {vs : List Value} {ns : List Int} {k : Int} {u : Tok} (hl : s.heap.IsList l vs.toArray) (hi : IntsAre vs ns) (h0 : 0 ≤ k) (h1 : k < ns.length) (h2 : ns.length ≤ 1000) (h : ∀ t, Q (.int (ns.getD k.toNat 0) t) s)
    (hs : subscripted slice false (.ref l) (.int k u) = operate [.ref l, .int k u] (getItem (.ref l) (.int k u)) := by with_unfolding_all rfl) (hg : ∀ r, letTemporaryGo value (.ref l) r = pure () := by intro _; with_unfolding_all rfl) :
    wpAny (model prog w) A (subscriptTail value slice (.ref l) (.int k u)) Q E s :=
  item_list_ints hl hi h0 h1 (by omega) h hs hg
theorem imulB {A : Around} {a b : Int} {t u : Tok} (hb : -18446744073709551616 < b ∧ b < 18446744073709551616) (h : Q (.int (a * b) s.toks) { s with toks := s.toks + 1 }) : wpAny (model prog w) A (inplaceOp .Mult (.int a t) (.int b u)) Q E s :=
  imul_int h (hm := IntMulOk.of_right (bits64 hb.1 hb.2))
set_option maxRecDepth 100000 in
set_option maxHeartbeats 8000000 in
set_option pp.deepTerms false in
set_option pp.deepTerms.threshold 8 in
theorem product_spec {l : Addr} {vs : List Value} {c0 c1 c2 c3 b : Int} {t : Tok} (X : (KK w.params).In s.heap) (T : Top p loose mean mg mb s.heap) (hroom : dp + 5 < recursionLimit) (hun : un + 30 < cLine)
    (hl : s.heap.IsList l vs.toArray) (hI : IntsAre vs [c0, c1, c2, c3])
    (hb : -1000000000000 < b ∧ b < 1000000000000) (h0 : 0 ≤ c0 ∧ c0 ≤ 4) (h1 : 0 ≤ c1 ∧ c1 ≤ 4) (h2 : 0 ≤ c2 ∧ c2 ≤ 4) (h3 : 0 ≤ c3 ∧ c3 ≤ 4)
    (hret : ∀ h' tk' t', Ext s.heap h' → Q (.int ((b + c0) * (b + c1 - 1) * (b + c2 - 2) * (b + c3 - 3)) t') { s with heap := h', toks := tk' }) :
    wpAny (model prog w) (AA dp un gd fr) (call (.ref 92) [.ref l, .int b t]) Q E s := by
  refine wpAny_call ?_
  refine enter (binds := [(Str.ofString "counts", .ref l), (Str.ofString "base", .int b t)]) X T.nolimit (by k_is) (by k_is) (by show dp < recursionLimit; omega) (BindsTo.of_eq rfl) (locs rfl) ?_ rfl rfl rfl (by decide)
  intro L h₁ F
  have N : News s.heap L h₁ [] := News.nil
  have hci : ∀ i : Nat, i < 4 → 0 ≤ [c0, c1, c2, c3].getD i 0 ∧ [c0, c1, c2, c3].getD i 0 ≤ 4 := by
    intro i hi
    match i, hi with
    | 0, _ => exact h0
    | 1, _ => exact h1
    | 2, _ => exact h2
    | 3, _ => exact h3
  dsimp only
  repeat' (first | ((with_reducible show UnrEnd _ _ _ _ _ _ _); (refine stop_of ?_)) | ((with_reducible show RangeRest _ _ _ _ _ _ _ _ _ _ _ _ _ _ _ _ _); (refine stop_of ?_)) | ((with_reducible show wpAny _ _ (subscriptTail _ _ _ _) _ _ _); (k_dflt (refine itemP (by assumption) (by assumption) (by assumption) (by assumption) (by assumption) ?_); intro _)) | ((with_reducible show wpAny _ _ (loadName _ _) _ _ _); (k_dflt (refine ldn (by assumption) (by assumption) ?_))) | ((with_reducible show wpAny _ _ (eval (PySem.Expr.Name _ _) _) _ _ _); (k_dflt (refine ld (by assumption) (by assumption) ?_))) | ((with_reducible show wpAny _ _ (inplaceOp Operator.Mult (Value.int _ _) (Value.int _ _)) _ _ _); (refine imulB (by assumption) ?_)) | walk1 | (dsimp only; walk1) | fail "no step")
  rename Fr _ _ _ _ => F9
  rename News _ _ _ _ => N9
  refine ⟨rr_ind (n := 4) (ProdJ [c0, c1, c2, c3] b l) ?pz ?ps 4 0 _ _ rfl ⟨_, _, rfl, rfl, rfl, rfl⟩⟩
  case ps =>
    clear F9 N9 hret
    rintro i m nws hi ⟨t1, t3, rfl, m1, m2, m3⟩ t5 h5 tk5 it hit F5 N5
    have up : ∀ {x : Str} {v : Value}, x ≠ Str.ofString "place" → m x = some v → (fun y => if y = Str.ofString "place" then some (.int (0 + (i : Int)) t5) else m y) x = some v := fun hx e => by
      show (if _ then _ else _) = _; rw [if_neg hx]; exact e
    have n1 := up (by decide) m1
    have n2 := up (by decide) m2
    have n3 := up (by decide) m3
    have n4 : (fun y => if y = Str.ofString "place" then some (Value.int (0 + (i : Int)) t5) else m y) (Str.ofString "place") = some (.int (0 + (i : Int)) t5) := by show (if _ then _ else _) = _; rw [if_pos rfl]
    generalize (fun y => if y = Str.ofString "place" then some (Value.int (0 + (i : Int)) t5) else m y) = m6 at *
    obtain ⟨g0, g4⟩ := hci i hi
    have hl5 : h5.IsList l vs.toArray := hl.at fun o e => F5.keep _ _ e
    have k0 : (0 : Int) ≤ 0 + (i : Int) := by omega
    have k1 : 0 + (i : Int) < ([c0, c1, c2, c3].length : Nat) := by show _ < (4 : Int); omega
    have k2 : [c0, c1, c2, c3].length ≤ 1000 := by show 4 ≤ 1000; decide
    have e1 : (0 + (i : Int)).toNat = i := by omega
    have e2 : b + [c0, c1, c2, c3].getD (0 + (i : Int)).toNat 0 - (0 + (i : Int)) = b + [c0, c1, c2, c3].getD i 0 - (i : Int) := by rw [e1]; omega
    have kb : -18446744073709551616 < b + [c0, c1, c2, c3].getD (0 + (i : Int)).toNat 0 - (0 + (i : Int)) ∧ b + [c0, c1, c2, c3].getD (0 + (i : Int)).toNat 0 - (0 + (i : Int)) < 18446744073709551616 := by rw [e2]; omega
    dsimp only
    repeat' (first | ((with_reducible show UnrEnd _ _ _ _ _ _ _); (refine stop_of ?_)) | ((with_reducible show RangeRest _ _ _ _ _ _ _ _ _ _ _ _ _ _ _ _ _); (refine stop_of ?_)) | ((with_reducible show wpAny _ _ (subscriptTail _ _ _ _) _ _ _); (k_dflt (refine itemP (by assumption) (by assumption) (by assumption) (by assumption) (by assumption) ?_); intro _)) | ((with_reducible show wpAny _ _ (loadName _ _) _ _ _); (k_dflt (refine ldn (by assumption) (by assumption) ?_))) | ((with_reducible show wpAny _ _ (eval (PySem.Expr.Name _ _) _) _ _ _); (k_dflt (refine ld (by assumption) (by assumption) ?_))) | ((with_reducible show wpAny _ _ (inplaceOp Operator.Mult (Value.int _ _) (Value.int _ _)) _ _ _); (refine imulB (by assumption) ?_)) | walk1 | (dsimp only; walk1) | fail "no step")
    rename Fr _ _ _ _ => F6
    rename News _ _ _ _ => N6
    exact ⟨⟨_, _, _, [], rfl, F6, N6, (fun _ h => nomatch h), _, _, rfl, (by show (if _ then _ else _) = _; rw [if_pos rfl, e2]; rfl), (by show (if _ then _ else _) = _; rw [if_neg (by decide)]; exact n2), (by show (if _ then _ else _) = _; rw [if_neg (by decide)]; exact n3)⟩⟩
  case pz =>
    rintro m nws ⟨t1, t3, rfl, m1, m2, m3⟩ h5 tk5 F5 N5
    clear F9 N9
    dsimp only
    repeat' (first | ((with_reducible show UnrEnd _ _ _ _ _ _ _); (refine stop_of ?_)) | ((with_reducible show RangeRest _ _ _ _ _ _ _ _ _ _ _ _ _ _ _ _ _); (refine stop_of ?_)) | ((with_reducible show wpAny _ _ (subscriptTail _ _ _ _) _ _ _); (k_dflt (refine itemP (by assumption) (by assumption) (by assumption) (by assumption) (by assumption) ?_); intro _)) | ((with_reducible show wpAny _ _ (loadName _ _) _ _ _); (k_dflt (refine ldn (by assumption) (by assumption) ?_))) | ((with_reducible show wpAny _ _ (eval (PySem.Expr.Name _ _) _) _ _ _); (k_dflt (refine ld (by assumption) (by assumption) ?_))) | ((with_reducible show wpAny _ _ (inplaceOp Operator.Mult (Value.int _ _) (Value.int _ _)) _ _ _); (refine imulB (by assumption) ?_)) | walk1 | (dsimp only; walk1) | fail "no step")
    exact ret_int (by simp [pp, Int.sub_zero]) (hret _ _ _ (Fr.keep (by assumption)))
end Mine
end PartF1

section PartF2
open PySem PySem.W PyProof.Rows PySem.Calls
namespace Mine
theorem offF2 : True := by w_top off; trivial
local macro_rules | `(tactic| walk_at "pad F2") => `(tactic| skip)
variable {prog : Program} {w : World} {dp un : Nat} {gd : Option (List Code)} {fr : Option (List Env)} {s : Shared} {p : Program} {loose : List Str} {mean : ExcName → Option Value} {mg mb : Str → Option Value} {Q : Value → Shared → Prop} {E : Value → Shared → Prop}

local macro_rules | `(tactic| walk_at "call builtin:divmod") => `(tactic| (refine divmod_N (by assumption) (by assumption) (by omega) ?_ (hp := Or.inl (noPy (by omega) (by omega))); intro _ _ _))
set_option maxRecDepth 100000 in
set_option maxHeartbeats 8000000 in
set_option pp.deepTerms false in
set_option pp.deepTerms.threshold 8 in
theorem div21_spec {a b n : Int} {t u v : Tok} (X : (KK w.params).In s.heap) (T : Top p loose mean mg mb s.heap) (hroom : dp + 5 < recursionLimit) (hun : un + 30 < cLine)
    (ha : Builtin.Int.intBits a ≤ 3000) (hn : 0 ≤ n) (hb : 0 < b) (hb2 : b < 18446744073709551616)
    (hret : ∀ h' tk' r t1 t2, Ext s.heap h' → s.heap.get? r = none → h'.get? r = some (tup2 (.int (a.fdiv b) t1) (.int (a.fmod b) t2)) → Q (.ref r) { s with heap := h', toks := tk' }) :
    wpAny (model prog w) (AA dp un gd fr) (call (.ref 21) [.int a t, .int b u, .int n v]) Q E s := by
  refine wpAny_call ?_
  refine enter (binds := [(Str.ofString "a", .int a t), (Str.ofString "b", .int b u), (Str.ofString "n", .int n v)]) X T.nolimit (by k_is) (by k_is) (by show dp < recursionLimit; omega) (BindsTo.of_eq rfl) (locs rfl) ?_ rfl rfl rfl (by decide)
  intro L h₁ F
  have N : News s.heap L h₁ [] := News.nil
  dsimp only
  have hb' : b ≠ 0 := by omega
  k_steps
  rename_i F' N'
  dsimp only
  exact hret _ _ _ _ _ F'.keep (N'.fresh (.head _)) (N'.get (.head _))
end Mine
end PartF2

section PartF3
open PySem PySem.W PyProof.Rows PySem.Calls
namespace Mine
theorem offF3 : True := by w_top off; trivial
abbrev q1 : Str := Str.ofString "_int2digits.<locals>.inner"
abbrev cl1 (cn ci ca : Addr) : List (Str × Addr) := [(Str.ofString "n", cn), (Str.ofString "inner", ci), (Str.ofString "a_digits", ca)]
structure In1 (h : Heap) (f cn ci ca D c' : Addr) (n : Int) (tn : Tok) (doc pm ctv : Value) : Prop where
  fn : h.get? f = some (fnMade (Str.ofString "inner") q1 (argsOf in1) (bodyOf in1) (scopeOf in1) (cl1 cn ci ca) doc pm c' ctv)
  code : h.CodeRec (.ref c') q1
  n : h.IsCell cn (some (.int n tn))
  inner : h.IsCell ci (some (.ref f))
  dig : h.IsCell ca (some (.ref D))
theorem In1.keeps {h h' : Heap} {f cn ci ca D c' : Addr} {n : Int} {tn : Tok} {doc pm ctv : Value} (x : In1 h f cn ci ca D c' n tn doc pm ctv) (k : Ext h h') : In1 h' f cn ci ca D c' n tn doc pm ctv :=
  ⟨k _ _ x.fn, x.code.keeps k, x.n.keeps k, x.inner.keeps k, x.dig.keeps k⟩
variable {prog : Program} {w : World} {p : Program} {loose : List Str} {mean : ExcName → Option Value} {mg mb : Str → Option Value} {h₀ : Heap}

/-- inner of _int2digits: it lays x's digits into the list's places from lo up to hi -/
def Inner1 (prog : Program) (w : World) (f cn ci ca D c' : Addr) (n : Int) (tn : Tok) (doc pm ctv : Value) (h₀ : Heap) (k : Nat) : Prop :=
  ∀ (dp un : Nat) (gd : Option (List Code)) (fr : Option (List Env)) (s : Shared) (x lo hi : Int) (tx tl th : Tok) (vs : List Value) (ns : List Int) (e : Nat) (Q E : Value → Shared → Prop),
    Ext h₀ s.heap → h₀.get? D = none → In1 (hideAll s.heap [D]) f cn ci ca D c' n tn doc pm ctv → s.heap.get? D = some (lst vs e) → IntsAre vs ns → 0 ≤ lo → hi = lo + k → (hi : Int) ≤ ns.length → ns.length ≤ 100 →
    0 ≤ x → x < 2 ^ (n.toNat * k) → dp + k + 5 < recursionLimit →
    (∀ h' tk' vs' is, (∀ b o, b ≠ D → s.heap.get? b = some o → h'.get? b = some o) → h'.get? D = some (lst vs' e) → IntsAre vs' (ns.take lo.toNat ++ is ++ ns.drop hi.toNat) → is.length = k → (∀ d ∈ is, 0 ≤ d ∧ d < 2 ^ n.toNat) → val n.toNat is = x →
      Q .none { s with heap := h', toks := tk' }) →
    wpAny (model prog w) (AA dp un gd fr) (call (.ref f) [.int x tx, .int lo tl, .int hi th]) Q E s

local macro_rules | `(tactic| walk_at "setItem ref int") => `(tactic| (refine ksa_set (by assumption) (by assumption) (Upd.head (fun _ h9 => nomatch h9)) (by assumption) (by assumption) (by omega) (by omega) ?_; intro h' F' N'))
local macro_rules | `(tactic| walk_at "callWith ref") => `(tactic| (k_dflt (refine callWith_F ⟨_, _, _, _, Fr.keep (by assumption) _ _ (In1.fn (by assumption))⟩ ?_)))
local macro_rules | `(tactic| walk_at "FnAt") => `(tactic| (k_dflt (exact ⟨_, _, _, _, Fr.keep (by assumption) _ _ (In1.fn (by assumption))⟩)))

set_option maxRecDepth 100000 in
set_option maxHeartbeats 8000000 in
set_option pp.deepTerms false in
set_option pp.deepTerms.threshold 8 in
theorem inner1_step {f cn ci ca D c' : Addr} {n : Int} {tn : Tok} {doc pm ctv : Value} (X : (KK w.params).In h₀) (T : Top p loose mean mg mb h₀) (hn : 0 < n) (hn2 : n ≤ 64)
    (k : Nat) (IH : ∀ j, j < k → 0 < j → Inner1 prog w f cn ci ca D c' n tn doc pm ctv h₀ j) (hk : 0 < k) (hk2 : k ≤ 64) : Inner1 prog w f cn ci ca D c' n tn doc pm ctv h₀ k := by
  intro dp un gd fr s x lo hi tx tl th vs ns e Q E hs hD0 I hD hI hlo hhi hle hlen hx hx2 hroom hret
  have X' := X.keeps (ext_hide (l := [D]) hs (by simpa using hD0))
  have T' := T.keeps (ext_hide (l := [D]) hs (by simpa using hD0))
  refine wpAny_call ?_
  refine enterF (g := hideAll s.heap [D]) (news := [(D, lst vs e)]) (binds := [(Str.ofString "x", .int x tx), (Str.ofString "L", .int lo tl), (Str.ofString "R", .int hi th)]) (hide_ext _ _) (Nat.le_of_eq (hideAll_size _ _))
    (by intro p hp; simp at hp; subst hp; exact ⟨hD, hideAll_none _ (.head _)⟩) T'.nolimit (hide_ext _ _ _ _ I.fn) rfl (I.code.keeps (hide_ext _ _)) (by show dp < recursionLimit; omega) (BindsTo.of_eq rfl) (locs rfl) ?_ rfl rfl rfl (by decide)
  intro L h₁ F N hl hL hext
  have hgD : (hideAll s.heap [D]).get? D = none := hideAll_none _ (.head _)
  have hback : ∀ h', Ext (hideAll s.heap [D]) h' → ∀ b o, b ≠ D → s.heap.get? b = some o → h'.get? b = some o := fun h' y b o hb e => hide_back y (by simpa using hb) e
  have hg0 : Ext h₀ (hideAll s.heap [D]) := ext_hide hs (by simpa using hD0)
  generalize hideAll s.heap [D] = g at *
  show wpAny _ _ (execs (_ :: _) _) _ _ _
  dsimp only
  clear X T
  have hLD : L ≠ D := Nat.ne_of_gt (hl _ (.head _))
  clear hl
  by_cases hk1 : k = 1
  · have hh1 : hi = lo + 1 := by omega
    have hT : (lo + 1 == hi) = true := by simp [hh1]
    clear IH hhi hk2
    repeat' (first | ((with_reducible show wpAny _ _ (binaryOp Operator.BitXor (Value.int _ _) (Value.int _ _)) _ _ _); with_reducible ((refine xorE (by assumption) ?_))) | ((with_reducible show wpAny _ _ (binaryOp Operator.Mult (Value.int _ _) (Value.int _ _)) _ _ _); with_reducible ((refine mulE (by assumption) (by omega) (by omega) ?_))) | ((with_reducible show wpAny _ _ (binaryOp Operator.LShift (Value.int _ _) (Value.int _ _)) _ _ _); with_reducible ((refine lshE (by assumption) (by assumption) (by assumption) (by assumption) ?_))) | ((with_reducible show wpAny _ _ (binaryOp Operator.RShift (Value.int _ _) (Value.int _ _)) _ _ _); with_reducible (first | (refine rsh1E (by assumption) (by omega) ?_) | (refine rshE (by assumption) (by assumption) ?_))) | ((with_reducible show (@ite Prop _ _ _ _)); with_reducible (first | refine iteT (by assumption) ?_ | refine iteF (by assumption) ?_)) | ((with_reducible show wpAny _ _ (call (Value.ref _) _) _ _ _); (refine stop_of ?_)) | ((with_reducible show wpAny _ _ (eval (PySem.Expr.Name _ _) _) _ _ _); (first | ((with_reducible show wpAny _ _ (eval (Expr.Name (Str.ofString "n") _) _) _ _ _); k_dflt (refine nameFree ((In1.n (by assumption)).keeps (Fr.keep (by assumption))) rfl ?_)) | ((with_reducible show wpAny _ _ (eval (Expr.Name (Str.ofString "inner") _) _) _ _ _); k_dflt (refine nameFree ((In1.inner (by assumption)).keeps (Fr.keep (by assumption))) rfl ?_)) | ((with_reducible show wpAny _ _ (eval (Expr.Name (Str.ofString "a_digits") _) _) _ _ _); k_dflt (refine nameFree ((In1.dig (by assumption)).keeps (Fr.keep (by assumption))) rfl ?_)))) | walk1 | (dsimp only; walk1) | fail "no step")
    (try dsimp only)
    rename_i h9 F9 N9 _ _ _
    refine hret h9 _ _ [x] (hback h9 F9.keep) (N9.get (.head _)) ?_ (by simp [hk1]) ?_ ?_
    · have h7 := ints_set (x := x) (u := tx) hI lo.toNat
      have h8 : ns.set lo.toNat x = ns.take lo.toNat ++ [x] ++ ns.drop hi.toNat := by
        rw [List.set_eq_take_append_cons_drop, if_pos (by omega), show hi.toNat = lo.toNat + 1 by omega]; simp
      rw [← h8]; exact h7
    · intro d hd; simp at hd; subst hd; exact ⟨hx, by simpa [hk1] using hx2⟩
    · simp [val]
  · have hh2 : lo + 1 < hi := by omega
    have hF : (lo + 1 == hi) = false := by simp; omega
    obtain ⟨mid, hmid⟩ : ∃ c, (lo + hi) / 2 = c := ⟨_, rfl⟩
    obtain ⟨sh, hsh⟩ : ∃ c, (mid - lo) * n = c := ⟨_, rfl⟩
    obtain ⟨up, hup⟩ : ∃ c, x.fdiv (2 ^ sh.toNat) = c := ⟨_, rfl⟩
    obtain ⟨us, hus⟩ : ∃ c, up * 2 ^ sh.toNat = c := ⟨_, rfl⟩
    obtain ⟨low, hlow⟩ : ∃ c, Builtin.bitXor x us = c := ⟨_, rfl⟩
    obtain ⟨a, j, rfl, rfl, rfl, hj0, hjk, ham⟩ := mids hlo hhi (by omega) hmid hle
    obtain ⟨hsh0, hshb, hupb, hlow0, hlow2, hup0, hup2, hsum⟩ := split_facts hn hn2 hk2 hjk (by rw [← sub1 a j]; exact hsh) hup hus hlow hx hx2
    clear hhi hk
    repeat' (first | ((with_reducible show wpAny _ _ (binaryOp Operator.BitXor (Value.int _ _) (Value.int _ _)) _ _ _); with_reducible ((refine xorE (by assumption) ?_))) | ((with_reducible show wpAny _ _ (binaryOp Operator.Mult (Value.int _ _) (Value.int _ _)) _ _ _); with_reducible ((refine mulE (by assumption) (by omega) (by omega) ?_))) | ((with_reducible show wpAny _ _ (binaryOp Operator.LShift (Value.int _ _) (Value.int _ _)) _ _ _); with_reducible ((refine lshE (by assumption) (by assumption) (by assumption) (by assumption) ?_))) | ((with_reducible show wpAny _ _ (binaryOp Operator.RShift (Value.int _ _) (Value.int _ _)) _ _ _); with_reducible (first | (refine rsh1E (by assumption) (by omega) ?_) | (refine rshE (by assumption) (by assumption) ?_))) | ((with_reducible show (@ite Prop _ _ _ _)); with_reducible (first | refine iteT (by assumption) ?_ | refine iteF (by assumption) ?_)) | ((with_reducible show wpAny _ _ (call (Value.ref _) _) _ _ _); (refine stop_of ?_)) | ((with_reducible show wpAny _ _ (eval (PySem.Expr.Name _ _) _) _ _ _); (first | ((with_reducible show wpAny _ _ (eval (Expr.Name (Str.ofString "n") _) _) _ _ _); k_dflt (refine nameFree ((In1.n (by assumption)).keeps (Fr.keep (by assumption))) rfl ?_)) | ((with_reducible show wpAny _ _ (eval (Expr.Name (Str.ofString "inner") _) _) _ _ _); k_dflt (refine nameFree ((In1.inner (by assumption)).keeps (Fr.keep (by assumption))) rfl ?_)) | ((with_reducible show wpAny _ _ (eval (Expr.Name (Str.ofString "a_digits") _) _) _ _ _); k_dflt (refine nameFree ((In1.dig (by assumption)).keeps (Fr.keep (by assumption))) rfl ?_)))) | walk1 | (dsimp only; walk1) | fail "no step")
    refine ⟨?_⟩
    rename_i F9 N9
    (try dsimp only [List.nil_append])
    refine IH j hjk hj0 _ _ _ _ _ _ _ _ _ _ _ vs ns e _ _ (hg0.trans F9.keep) hD0 (I.keeps (ext_hide F9.keep (by simpa using hgD))) (N9.get (.head _)) hI hlo (Int.natCast_add a j) (Int.ofNat_le.mpr (Nat.le_trans (Nat.add_le_add_left (Nat.le_of_lt hjk) a) ham)) hlen hlow0 hlow2 (by show dp + 1 + _ + 5 < _; omega) ?_
    intro h8 tk8 vs8 is8 hk8 hD8 hI8 hl8 hb8 hv8
    have F8 := Mine.Fr.but F9 hgD hLD hk8
    have N8 : News g L h8 [(D, lst vs8 e)] := by intro p hp; simp at hp; subst hp; exact ⟨hD8, Ne.symm hLD, hgD⟩
    simp only [Int.toNat_natCast] at hI8
    have hns8 : (ns.take a ++ is8 ++ ns.drop (a + j)).length = ns.length := len3 hl8 (Nat.le_trans (Nat.add_le_add_left (Nat.le_of_lt hjk) a) ham)
    (try dsimp only)
    clear F9 N9
    repeat' (first | ((with_reducible show wpAny _ _ (binaryOp Operator.BitXor (Value.int _ _) (Value.int _ _)) _ _ _); with_reducible ((refine xorE (by assumption) ?_))) | ((with_reducible show wpAny _ _ (binaryOp Operator.Mult (Value.int _ _) (Value.int _ _)) _ _ _); with_reducible ((refine mulE (by assumption) (by omega) (by omega) ?_))) | ((with_reducible show wpAny _ _ (binaryOp Operator.LShift (Value.int _ _) (Value.int _ _)) _ _ _); with_reducible ((refine lshE (by assumption) (by assumption) (by assumption) (by assumption) ?_))) | ((with_reducible show wpAny _ _ (binaryOp Operator.RShift (Value.int _ _) (Value.int _ _)) _ _ _); with_reducible (first | (refine rsh1E (by assumption) (by omega) ?_) | (refine rshE (by assumption) (by assumption) ?_))) | ((with_reducible show (@ite Prop _ _ _ _)); with_reducible (first | refine iteT (by assumption) ?_ | refine iteF (by assumption) ?_)) | ((with_reducible show wpAny _ _ (call (Value.ref _) _) _ _ _); (refine stop_of ?_)) | ((with_reducible show wpAny _ _ (eval (PySem.Expr.Name _ _) _) _ _ _); (first | ((with_reducible show wpAny _ _ (eval (Expr.Name (Str.ofString "n") _) _) _ _ _); k_dflt (refine nameFree ((In1.n (by assumption)).keeps (Fr.keep (by assumption))) rfl ?_)) | ((with_reducible show wpAny _ _ (eval (Expr.Name (Str.ofString "inner") _) _) _ _ _); k_dflt (refine nameFree ((In1.inner (by assumption)).keeps (Fr.keep (by assumption))) rfl ?_)) | ((with_reducible show wpAny _ _ (eval (Expr.Name (Str.ofString "a_digits") _) _) _ _ _); k_dflt (refine nameFree ((In1.dig (by assumption)).keeps (Fr.keep (by assumption))) rfl ?_)))) | walk1 | (dsimp only; walk1) | fail "no step")
    refine ⟨?_⟩
    (try dsimp only [List.nil_append])
    refine IH (k - j) (Nat.sub_lt (Nat.lt_trans hj0 hjk) hj0) (Nat.sub_pos_of_lt hjk) _ _ _ _ _ _ _ _ _ _ _ vs8 _ e _ _ (hg0.trans F8.keep) hD0 (I.keeps (ext_hide F8.keep (by simpa using hgD))) (N8.get (.head _)) hI8 (Int.natCast_nonneg _) (cast_lt hjk) (by rw [hns8]; exact hle) (by rw [hns8]; exact hlen) hup0 hup2 (by show dp + 1 + _ + 5 < _; omega) ?_
    intro h7 tk7 vs7 is7 hk7 hD7 hI7 hl7 hb7 hv7
    have F7 := Mine.Fr.but F8 hgD hLD hk7
    (try dsimp only)
    repeat' (first | ((with_reducible show wpAny _ _ (binaryOp Operator.BitXor (Value.int _ _) (Value.int _ _)) _ _ _); with_reducible ((refine xorE (by assumption) ?_))) | ((with_reducible show wpAny _ _ (binaryOp Operator.Mult (Value.int _ _) (Value.int _ _)) _ _ _); with_reducible ((refine mulE (by assumption) (by omega) (by omega) ?_))) | ((with_reducible show wpAny _ _ (binaryOp Operator.LShift (Value.int _ _) (Value.int _ _)) _ _ _); with_reducible ((refine lshE (by assumption) (by assumption) (by assumption) (by assumption) ?_))) | ((with_reducible show wpAny _ _ (binaryOp Operator.RShift (Value.int _ _) (Value.int _ _)) _ _ _); with_reducible (first | (refine rsh1E (by assumption) (by omega) ?_) | (refine rshE (by assumption) (by assumption) ?_))) | ((with_reducible show (@ite Prop _ _ _ _)); with_reducible (first | refine iteT (by assumption) ?_ | refine iteF (by assumption) ?_)) | ((with_reducible show wpAny _ _ (call (Value.ref _) _) _ _ _); (refine stop_of ?_)) | ((with_reducible show wpAny _ _ (eval (PySem.Expr.Name _ _) _) _ _ _); (first | ((with_reducible show wpAny _ _ (eval (Expr.Name (Str.ofString "n") _) _) _ _ _); k_dflt (refine nameFree ((In1.n (by assumption)).keeps (Fr.keep (by assumption))) rfl ?_)) | ((with_reducible show wpAny _ _ (eval (Expr.Name (Str.ofString "inner") _) _) _ _ _); k_dflt (refine nameFree ((In1.inner (by assumption)).keeps (Fr.keep (by assumption))) rfl ?_)) | ((with_reducible show wpAny _ _ (eval (Expr.Name (Str.ofString "a_digits") _) _) _ _ _); k_dflt (refine nameFree ((In1.dig (by assumption)).keeps (Fr.keep (by assumption))) rfl ?_)))) | walk1 | (dsimp only; walk1) | fail "no step")
    (try dsimp only)
    simp only [Int.toNat_natCast] at hI7
    refine hret h7 _ vs7 (is8 ++ is7) (hback h7 F7.keep) hD7 ?_ (by rw [List.length_append, hl8, hl7]; exact Nat.add_sub_cancel' (Nat.le_of_lt hjk)) ?_ ?_
    · simp only [Int.toNat_natCast]
      rw [mid_take (by rw [hl8]) (Nat.le_trans (Nat.add_le_add_left (Nat.le_of_lt hjk) a) ham), mid_drop (by rw [hl8]) (Nat.add_le_add_left (Nat.le_of_lt hjk) a) ham] at hI7
      simpa using hI7
    · intro d hd
      rcases List.mem_append.mp hd with h | h
      · exact hb8 d h
      · exact hb7 d h
    · rw [val_append, hv8, hv7, hl8]; exact hsum

theorem inner1_all {f cn ci ca D c' : Addr} {n : Int} {tn : Tok} {doc pm ctv : Value} (X : (KK w.params).In h₀) (T : Top p loose mean mg mb h₀) (hn : 0 < n) (hn2 : n ≤ 64) :
    ∀ k : Nat, 0 < k → k ≤ 64 → Inner1 prog w f cn ci ca D c' n tn doc pm ctv h₀ k := by
  intro k
  induction k using Nat.strongRecOn with
  | ind k ih => exact fun h1 h2 => inner1_step X T hn hn2 k (fun j hj h0 => ih j hj h0 (by omega)) h1 h2
end Mine
end PartF3

section PartF5
open PySem PySem.W PyProof.Rows PySem.Calls
namespace Mine
theorem offF5 : True := by w_top off; trivial
variable {prog : Program} {w : World} {dp un : Nat} {gd : Option (List Code)} {fr : Option (List Env)} {s : Shared} {p : Program} {loose : List Str} {mean : ExcName → Option Value} {mg mb : Str → Option Value} {h₀ : Heap} {Q : Value → Shared → Prop} {E : Value → Shared → Prop}
set_option maxRecDepth 100000 in
set_option maxHeartbeats 8000000 in
set_option pp.deepTerms false in
set_option pp.deepTerms.threshold 8 in
theorem i2d_new {a n d : Int} {t u : Tok} (X : (KK w.params).In h₀) (T : Top p loose mean mg mb h₀) (hs : Ext h₀ s.heap) (h30 : h₀.get? 30 = none) (C : CodeHd h₀ 34 30)
    (hroom : dp + 100 < recursionLimit) (hun : un + 100 < cLine) (hP : s.heap.get? 30 = some (tabObj #[])) {o37 : Obj} (hP37 : s.heap.get? 37 = some o37)
    (ha : 0 < a) (hn : 0 < n) (hn2 : n ≤ 64) (hd : ((Builtin.Int.intBits a : Int) + n - 1).fdiv n = d) (hd0 : 0 < d) (hd2 : d ≤ 64)
    (hret : ∀ h' tk' r vs' is e c oc cs tc, (∀ b o, b ≠ 30 → s.heap.get? b = some o → h'.get? b = some o) → h'.get? 30 = some (tabObj #[rawInt 32, rawInt 4, .ref c]) → h'.get? c = some oc → s.heap.get? c = none → oc.data = .fields cs → cs[1]? = some (.str q1 tc) → c ≠ r → h'.get? r = some (lst vs' e) → s.heap.get? r = none → IntsAre vs' is → is.length = d.toNat →
      (∀ d ∈ is, 0 ≤ d ∧ d < 2 ^ n.toNat) → val n.toNat is = a → Q (.ref r) { s with heap := h', toks := tk' }) :
    wpAny (model prog w) (AA dp un gd fr) (call (.ref 35) [.int a t, .int n u]) Q E s := by
  have X' := X.keeps (ext_hide (l := [30]) hs (by simpa using h30))
  have T' := T.keeps (ext_hide (l := [30]) hs (by simpa using h30))
  have C' := C.keeps (ext_hide (l := [30]) hs (by simpa using h30))
  refine wpAny_call ?_
  refine enterC (g := hideAll s.heap [30]) (news := [(30, tabObj #[])]) (binds := [(Str.ofString "a", .int a t), (Str.ofString "n", .int n u)]) (hide_ext _ _) (Nat.le_of_eq (hideAll_size _ _))
    (by intro p hp; simp at hp; subst hp; exact ⟨hP, hideAll_none _ (.head _)⟩) T'.nolimit (hide_ext _ _ _ _ (X' _ _ (by k_is))) rfl (codeRec_of (X'.keeps (hide_ext _ _)) (by k_is)) (by show dp < recursionLimit; omega) (BindsTo.of_eq rfl) rfl (by decide +kernel) ?_ rfl rfl rfl
  intro L h₁ tk cells F N Y hl hL hext
  have hg30 : (hideAll s.heap [30]).get? 30 = none := hideAll_none _ (.head _)
  have hgs : ∀ b o, b ≠ 30 → s.heap.get? b = some o → (hideAll s.heap [30]).get? b = some o := fun b o hb e => hideAll_get _ e (by simpa using hb)
  generalize hideAll s.heap [30] = g at *
  clear X T C
  k_cells Y
  simp only [List.cons_append, List.nil_append] at N
  (try dsimp only)
  have h30L : (30 : Nat) < L := hl _ (.head _)
  have h37L : (37 : Nat) < L := Nat.lt_of_lt_of_le (Heap.lt_size hP37) hL
  clear hl
  repeat' (first | ((with_reducible show wpAny _ _ (call (Value.ref _) _) _ _ _); (refine stop_of ?_)) | walk1 | (dsimp only; walk1) | fail "no step")
  rotate_left
  · exfalso; omega
  · rename_i tk0 o0a o0b o3 dd1 dd2 d3 l' ha4 la D ha3 hI n1 s1 e1 e2 e3 lD ha2 oD dD f c oc vs t' ct dc ha1 tk' dc1 dc2 lc lf h' oi F9 N9 di hne
    refine ⟨?_⟩
    have mD := N9 _ (.tail _ (.tail _ (.head _)))
    have gD : g.get? D = none := mD.2.2
    have hLD : L ≠ D := Ne.symm mD.2.1
    have hfit : a < 2 ^ (n.toNat * d.toNat) := i2d_facts ha hn hd
    have hn1 : (n1 : Int) = d := by rw [e3 (by omega)]; omega
    have I9 : In1 (hideAll h' [D]) f (L + 1) (L + 1 + 1 + 1) (L + 1 + 1) D c n u dc ((mg (Str.ofString "__name__")).getD Value.none) ct := by
      refine ⟨?_, ?_, ?_, ?_, ?_⟩
      · exact hideAll_get _ (N9.get (.head _)) (ne_mem (by omega))
      · exact ⟨c, oc, vs, t', rfl, hideAll_get _ (N9.get (.tail _ (.head _))) (ne_mem (by omega)), dc1, dc2⟩
      · exact ⟨o3, hideAll_get _ (N9.get (by k_mem)) (ne_mem (by omega)), d3⟩
      · exact ⟨oi, hideAll_get _ (N9.get (by k_mem)) (ne_mem (by omega)), di⟩
      · exact ⟨oD, hideAll_get _ (N9.get (by k_mem)) (ne_mem (by omega)), dD⟩
    refine inner1_all (h₀ := g) X' T' hn hn2 d.toNat (by omega) (by omega) _ _ _ _ _ _ _ _ _ _ _ _ _ _ _ _ F9.keep gD I9 (N9.get (.tail _ (.tail _ (.head _)))) hI (by omega) (by omega) (by omega) (by omega) (by omega) hfit (by show dp + 1 + _ + 5 < _; omega) ?_
    intro h7 tk7 vs7 is7 hk7 hD7 hI7 hl7 hb7 hv7
    have F7 := Mine.Fr.but F9 gD hLD hk7
    have N7 : News g L h7 [(L + 1 + 1, oD)] := Mine.News.keepOn (cb_drop N9 (by intro p hp; simp at hp; subst hp; k_mem)) hk7 (by intro p hp; simp at hp; subst hp; exact (Nat.ne_of_lt (by omega)))
    have hP7 : h7.get? 30 = some (tabObj #[rawInt 32, rawInt 4, .ref c]) := hk7 _ _ (Nat.ne_of_lt (by omega)) (N9.get (by k_mem))
    have hC7 : h7.get? c = some oc := hk7 _ _ (Nat.ne_of_gt (by omega)) (N9.get (.tail _ (.head _)))
    have gc : g.get? c = none := (N9 _ (.tail _ (.head _))).2.2
    clear N9 F9
    (try dsimp only)
    repeat' (first | ((with_reducible show wpAny _ _ (call (Value.ref _) _) _ _ _); (refine stop_of ?_)) | walk1 | (dsimp only; walk1) | fail "no step")
    (try dsimp only)
    have hsD : s.heap.get? D = none := by
      cases q : s.heap.get? D with
      | none => rfl
      | some o => have := hgs D o (Nat.ne_of_gt (by omega)) q; rw [gD] at this; cases this
    have hsc : s.heap.get? c = none := by
      cases q : s.heap.get? c with
      | none => rfl
      | some o => have := hgs c o (Nat.ne_of_gt (by omega)) q; rw [gc] at this; cases this
    refine hret h7 _ D vs7 is7 0 c oc vs t' (fun b o hb e => F7.keep b o (hgs b o hb e)) hP7 hC7 hsc dc1 dc2 (Nat.ne_of_gt (by omega)) hD7 hsD ?_ hl7 hb7 hv7
    rw [List.drop_of_length_le (by omega)] at hI7
    simpa using hI7
set_option maxRecDepth 100000 in
set_option maxHeartbeats 8000000 in
set_option pp.deepTerms false in
set_option pp.deepTerms.threshold 8 in
theorem i2d_hit {a n d : Int} {t u : Tok} (X : (KK w.params).In h₀) (T : Top p loose mean mg mb h₀) (hs : Ext h₀ s.heap) (h30 : h₀.get? 30 = none) (C : CodeHd h₀ 34 30)
    (hroom : dp + 100 < recursionLimit) (hun : un + 100 < cLine) {c : Addr} (hP : s.heap.get? 30 = some (tabObj #[rawInt 32, rawInt 4, .ref c])) (hc1 : c ≠ 30) (hc2 : c ≠ 37) (hc : s.heap.CodeRec (.ref c) q1) {o37 : Obj} (hP37 : s.heap.get? 37 = some o37)
    (ha : 0 < a) (hn : 0 < n) (hn2 : n ≤ 64) (hd : ((Builtin.Int.intBits a : Int) + n - 1).fdiv n = d) (hd0 : 0 < d) (hd2 : d ≤ 64)
    (hret : ∀ h' tk' r vs' is e, Ext s.heap h' → h'.get? r = some (lst vs' e) → s.heap.get? r = none → IntsAre vs' is → is.length = d.toNat →
      (∀ d ∈ is, 0 ≤ d ∧ d < 2 ^ n.toNat) → val n.toNat is = a → Q (.ref r) { s with heap := h', toks := tk' }) :
    wpAny (model prog w) (AA dp un gd fr) (call (.ref 35) [.int a t, .int n u]) Q E s := by
  have X' := X.keeps (ext_hide (l := [30]) hs (by simpa using h30))
  have T' := T.keeps (ext_hide (l := [30]) hs (by simpa using h30))
  have C' := C.keeps (ext_hide (l := [30]) hs (by simpa using h30))
  refine wpAny_call ?_
  refine enterC (g := hideAll s.heap [30]) (news := [(30, tabObj #[rawInt 32, rawInt 4, .ref c])]) (binds := [(Str.ofString "a", .int a t), (Str.ofString "n", .int n u)]) (hide_ext _ _) (Nat.le_of_eq (hideAll_size _ _))
    (by intro p hp; simp at hp; subst hp; exact ⟨hP, hideAll_none _ (.head _)⟩) T'.nolimit (hide_ext _ _ _ _ (X' _ _ (by k_is))) rfl (codeRec_of (X'.keeps (hide_ext _ _)) (by k_is)) (by show dp < recursionLimit; omega) (BindsTo.of_eq rfl) rfl (by decide +kernel) ?_ rfl rfl rfl
  intro L h₁ tk cells F N Y hl hL hext
  have hg30 : (hideAll s.heap [30]).get? 30 = none := hideAll_none _ (.head _)
  have hgs : ∀ b o, b ≠ 30 → s.heap.get? b = some o → (hideAll s.heap [30]).get? b = some o := fun b o hb e => hideAll_get _ e (by simpa using hb)
  generalize hideAll s.heap [30] = g at *
  clear X T C
  k_cells Y
  simp only [List.cons_append, List.nil_append] at N
  (try dsimp only)
  have h30L : (30 : Nat) < L := hl _ (.head _)
  have h37L : (37 : Nat) < L := Nat.lt_of_lt_of_le (Heap.lt_size hP37) hL
  clear hl
  repeat' (first | ((with_reducible show wpAny _ _ (call (Value.ref _) _) _ _ _); (refine stop_of ?_)) | walk1 | (dsimp only; walk1) | fail "no step")
  rotate_left
  · exfalso; omega
  · rename_i tk0 o0a o0b o3 dd1 dd2 d3 l' ha4 la D ha3 hI n1 s1 e1 e2 e3 lD ha2 oD dD f ct dc ha1 tk' lf h' oi F9 N9 di hne
    refine ⟨?_⟩
    have mD := N9 _ (.tail _ (.head _))
    have gD : g.get? D = none := mD.2.2
    have hLD : L ≠ D := Ne.symm mD.2.1
    have hfit : a < 2 ^ (n.toNat * d.toNat) := i2d_facts ha hn hd
    have hn1 : (n1 : Int) = d := by rw [e3 (by omega)]; omega
    obtain ⟨_, oc, vs, t', hcr, hco, dc1, dc2⟩ := hc
    cases hcr
    have hcg := hgs _ _ hc1 hco
    have hcD : c ≠ D := fun q => by rw [q, gD] at hcg; cases hcg
    have I9 : In1 (hideAll h' [D]) f (L + 1) (L + 1 + 1 + 1) (L + 1 + 1) D c n u dc ((mg (Str.ofString "__name__")).getD Value.none) ct := by
      refine ⟨?_, ?_, ?_, ?_, ?_⟩
      · exact hideAll_get _ (N9.get (.head _)) (ne_mem (by omega))
      · exact ⟨c, oc, vs, t', rfl, hideAll_get _ (F9.keep _ _ hcg) (ne_mem hcD), dc1, dc2⟩
      · exact ⟨o3, hideAll_get _ (N9.get (by k_mem)) (ne_mem (by omega)), d3⟩
      · exact ⟨oi, hideAll_get _ (N9.get (by k_mem)) (ne_mem (by omega)), di⟩
      · exact ⟨oD, hideAll_get _ (N9.get (by k_mem)) (ne_mem (by omega)), dD⟩
    refine inner1_all (h₀ := g) X' T' hn hn2 d.toNat (by omega) (by omega) _ _ _ _ _ _ _ _ _ _ _ _ _ _ _ _ F9.keep gD I9 (N9.get (.tail _ (.head _))) hI (by omega) (by omega) (by omega) (by omega) (by omega) hfit (by show dp + 1 + _ + 5 < _; omega) ?_
    intro h7 tk7 vs7 is7 hk7 hD7 hI7 hl7 hb7 hv7
    have F7 := Mine.Fr.but F9 gD hLD hk7
    have N7 : News g L h7 [(L + 1 + 1, oD)] := Mine.News.keepOn (cb_drop N9 (by intro p hp; simp at hp; subst hp; k_mem)) hk7 (by intro p hp; simp at hp; subst hp; exact (Nat.ne_of_lt (by omega)))
    have hP7 : h7.get? 30 = some (tabObj #[rawInt 32, rawInt 4, .ref c]) := hk7 _ _ (Nat.ne_of_lt (by omega)) (N9.get (by k_mem))
    clear N9 F9
    (try dsimp only)
    repeat' (first | ((with_reducible show wpAny _ _ (call (Value.ref _) _) _ _ _); (refine stop_of ?_)) | walk1 | (dsimp only; walk1) | fail "no step")
    (try dsimp only)
    have hsD : s.heap.get? D = none := by
      cases q : s.heap.get? D with
      | none => rfl
      | some o => have := hgs D o (Nat.ne_of_gt (by omega)) q; rw [gD] at this; cases this
    refine hret h7 _ D vs7 is7 0 (fun b o e => by
      by_cases hb : b = 30
      · subst hb; rw [hP] at e; cases e; exact hP7
      · exact F7.keep b o (hgs b o hb e)) hD7 hsD ?_ hl7 hb7 hv7
    rw [List.drop_of_length_le (by omega)] at hI7
    simpa using hI7
end Mine
end PartF5

section PartF4
open PySem PySem.W PyProof.Rows PySem.Calls
namespace Mine
theorem offF4 : True := by w_top off; trivial
abbrev q2 : Str := Str.ofString "_digits2int.<locals>.inner"
abbrev cl2 (cn ci ca : Addr) : List (Str × Addr) := [(Str.ofString "n", cn), (Str.ofString "inner", ci), (Str.ofString "digits", ca)]
structure In2 (h : Heap) (f cn ci ca D c' : Addr) (n : Int) (tn : Tok) (doc pm ctv : Value) : Prop where
  fn : h.get? f = some (fnMade (Str.ofString "inner") q2 (argsOf in2) (bodyOf in2) (scopeOf in2) (cl2 cn ci ca) doc pm c' ctv)
  code : h.CodeRec (.ref c') q2
  n : h.IsCell cn (some (.int n tn))
  inner : h.IsCell ci (some (.ref f))
  dig : h.IsCell ca (some (.ref D))
theorem In2.keeps {h h' : Heap} {f cn ci ca D c' : Addr} {n : Int} {tn : Tok} {doc pm ctv : Value} (x : In2 h f cn ci ca D c' n tn doc pm ctv) (k : Ext h h') : In2 h' f cn ci ca D c' n tn doc pm ctv :=
  ⟨k _ _ x.fn, x.code.keeps k, x.n.keeps k, x.inner.keeps k, x.dig.keeps k⟩
variable {prog : Program} {w : World} {p : Program} {loose : List Str} {mean : ExcName → Option Value} {mg mb : Str → Option Value} {h₀ : Heap}

/-- inner of _digits2int: the number that the digits from lo up to hi make -/
def Inner2 (prog : Program) (w : World) (f cn ci ca D c' : Addr) (n : Int) (tn : Tok) (doc pm ctv : Value) (h₀ : Heap) (vs : List Value) (ns : List Int) (k : Nat) : Prop :=
  ∀ (dp un : Nat) (gd : Option (List Code)) (fr : Option (List Env)) (s : Shared) (lo hi : Int) (tl th : Tok) (Q E : Value → Shared → Prop),
    Ext h₀ s.heap → In2 s.heap f cn ci ca D c' n tn doc pm ctv → s.heap.IsList D vs.toArray → 0 ≤ lo → hi = lo + k → (hi : Int) ≤ ns.length →
    dp + k + 5 < recursionLimit →
    (∀ h' tk' t', Ext s.heap h' → Q (.int (val n.toNat (part ns lo.toNat k)) t') { s with heap := h', toks := tk' }) →
    wpAny (model prog w) (AA dp un gd fr) (call (.ref f) [.int lo tl, .int hi th]) Q E s

local macro_rules | `(tactic| walk_at "callWith ref") => `(tactic| (k_dflt (refine callWith_F ⟨_, _, _, _, Fr.keep (by assumption) _ _ (In2.fn (by assumption))⟩ ?_)))
local macro_rules | `(tactic| walk_at "FnAt") => `(tactic| (k_dflt (exact ⟨_, _, _, _, Fr.keep (by assumption) _ _ (In2.fn (by assumption))⟩)))

set_option maxRecDepth 100000 in
set_option maxHeartbeats 8000000 in
set_option pp.deepTerms false in
set_option pp.deepTerms.threshold 8 in
theorem inner2_step {f cn ci ca D c' : Addr} {n : Int} {tn : Tok} {doc pm ctv : Value} {vs : List Value} {ns : List Int} (X : (KK w.params).In h₀) (T : Top p loose mean mg mb h₀) (hn : 0 < n) (hn2 : n ≤ 64)
    (hI : IntsAre vs ns) (hlen : ns.length ≤ 64) (hds : ∀ d ∈ ns, 0 ≤ d ∧ d < 2 ^ n.toNat)
    (k : Nat) (IH : ∀ j, j < k → 0 < j → Inner2 prog w f cn ci ca D c' n tn doc pm ctv h₀ vs ns j) (hk : 0 < k) : Inner2 prog w f cn ci ca D c' n tn doc pm ctv h₀ vs ns k := by
  intro dp un gd fr s lo hi tl th Q E hs I hD hlo hhi hle hroom hret
  have X' := X.keeps hs
  have T' := T.keeps hs
  refine wpAny_call ?_
  refine enterF (g := s.heap) (news := []) (binds := [(Str.ofString "L", .int lo tl), (Str.ofString "R", .int hi th)]) (Ext.refl _) (Nat.le_refl _)
    (fun _ hp => nomatch hp) T'.nolimit I.fn rfl I.code (by show dp < recursionLimit; omega) (BindsTo.of_eq rfl) (locs rfl) ?_ rfl rfl rfl (by decide)
  intro L h₁ F N _ hL hext
  show wpAny _ _ (execs (_ :: _) _) _ _ _
  (try dsimp only)
  clear X T
  by_cases hk1 : k = 1
  · have hh1 : hi = lo + 1 := by omega
    have hT : (lo + 1 == hi) = true := by simp [hh1]
    clear IH hhi
    repeat' (first | ((with_reducible show wpAny _ _ (binaryOp Operator.Mult (Value.int _ _) (Value.int _ _)) _ _ _); (refine mulE (by assumption) (by omega) (by omega) ?_)) | ((with_reducible show wpAny _ _ (binaryOp Operator.LShift (Value.int _ _) (Value.int _ _)) _ _ _); (refine lshE rfl (by assumption) (by assumption) (by assumption) ?_)) | ((with_reducible show wpAny _ _ (binaryOp Operator.RShift (Value.int _ _) (Value.int _ _)) _ _ _); first | (refine rsh1E (by assumption) (by omega) ?_) | (refine rshE (by assumption) (by assumption) ?_)) | ((with_reducible show (@ite Prop _ _ _ _)); first | refine iteT (by assumption) ?_ | refine iteF (by assumption) ?_) | ((with_reducible show wpAny _ _ (call (Value.ref _) _) _ _ _); (refine stop_of ?_)) | ((with_reducible show wpAny _ _ (subscriptTail (PySem.Expr.Name _ _) (PySem.Expr.Name _ _) (Value.ref _) (Value.int _ _)) _ _ _); (k_dflt (refine item_anyK (Ext.isList (Fr.keep (by assumption)) (by assumption)) (by assumption) (by assumption) (by omega) (by omega) ?_); intro t')) | ((with_reducible show wpAny _ _ (eval (PySem.Expr.Name _ _) _) _ _ _); (first | ((with_reducible show wpAny _ _ (eval (Expr.Name (Str.ofString "n") _) _) _ _ _); k_dflt (refine nameFree ((In2.n (by assumption)).keeps (Fr.keep (by assumption))) rfl ?_)) | ((with_reducible show wpAny _ _ (eval (Expr.Name (Str.ofString "inner") _) _) _ _ _); k_dflt (refine nameFree ((In2.inner (by assumption)).keeps (Fr.keep (by assumption))) rfl ?_)) | ((with_reducible show wpAny _ _ (eval (Expr.Name (Str.ofString "digits") _) _) _ _ _); k_dflt (refine nameFree ((In2.dig (by assumption)).keeps (Fr.keep (by assumption))) rfl ?_)))) | walk1 | (dsimp only; walk1) | fail "no step")
    (try dsimp only)
    refine ret_int ?_ (hret _ _ _ F.keep)
    subst hk1
    rw [part_one (by omega)]; simp [val]
  · have hh2 : lo + 1 < hi := by omega
    have hF : (lo + 1 == hi) = false := by simp; omega
    obtain ⟨mid, hmid⟩ : ∃ c, (lo + hi) / 2 = c := ⟨_, rfl⟩
    obtain ⟨sh, hsh⟩ : ∃ c, (mid - lo) * n = c := ⟨_, rfl⟩
    have hk64 : k ≤ 64 := by omega
    obtain ⟨a, j, rfl, rfl, rfl, hj0, hjk, ham⟩ := mids hlo hhi (by omega) hmid hle
    obtain ⟨hsh0, hshb, hupb, hsum⟩ := join_facts (sh := sh) hn hn2 hk64 hjk (by rw [← sub1 a j]; exact hsh) ham hds
    change Builtin.Int.intBits (val n.toNat (part ns ((a + j : Nat) : Int).toNat (k - j))) ≤ 10000 at hupb
    change val n.toNat (part ns ((a + j : Nat) : Int).toNat (k - j)) * 2 ^ sh.toNat + val n.toNat (part ns (a : Int).toNat j) = val n.toNat (part ns (a : Int).toNat k) at hsum
    clear hhi hk
    repeat' (first | ((with_reducible show wpAny _ _ (binaryOp Operator.Mult (Value.int _ _) (Value.int _ _)) _ _ _); (refine mulE (by assumption) (by omega) (by omega) ?_)) | ((with_reducible show wpAny _ _ (binaryOp Operator.LShift (Value.int _ _) (Value.int _ _)) _ _ _); (refine lshE rfl (by assumption) (by assumption) (by assumption) ?_)) | ((with_reducible show wpAny _ _ (binaryOp Operator.RShift (Value.int _ _) (Value.int _ _)) _ _ _); first | (refine rsh1E (by assumption) (by omega) ?_) | (refine rshE (by assumption) (by assumption) ?_)) | ((with_reducible show (@ite Prop _ _ _ _)); first | refine iteT (by assumption) ?_ | refine iteF (by assumption) ?_) | ((with_reducible show wpAny _ _ (call (Value.ref _) _) _ _ _); (refine stop_of ?_)) | ((with_reducible show wpAny _ _ (subscriptTail (PySem.Expr.Name _ _) (PySem.Expr.Name _ _) (Value.ref _) (Value.int _ _)) _ _ _); (k_dflt (refine item_anyK (Ext.isList (Fr.keep (by assumption)) (by assumption)) (by assumption) (by assumption) (by omega) (by omega) ?_); intro t')) | ((with_reducible show wpAny _ _ (eval (PySem.Expr.Name _ _) _) _ _ _); (first | ((with_reducible show wpAny _ _ (eval (Expr.Name (Str.ofString "n") _) _) _ _ _); k_dflt (refine nameFree ((In2.n (by assumption)).keeps (Fr.keep (by assumption))) rfl ?_)) | ((with_reducible show wpAny _ _ (eval (Expr.Name (Str.ofString "inner") _) _) _ _ _); k_dflt (refine nameFree ((In2.inner (by assumption)).keeps (Fr.keep (by assumption))) rfl ?_)) | ((with_reducible show wpAny _ _ (eval (Expr.Name (Str.ofString "digits") _) _) _ _ _); k_dflt (refine nameFree ((In2.dig (by assumption)).keeps (Fr.keep (by assumption))) rfl ?_)))) | walk1 | (dsimp only; walk1) | fail "no step")
    refine ⟨?_⟩
    rename_i F9 N9
    (try dsimp only [List.nil_append])
    refine IH (k - j) (Nat.sub_lt (Nat.lt_trans hj0 hjk) hj0) (Nat.sub_pos_of_lt hjk) _ _ _ _ _ _ _ _ _ _ _ (hs.trans F9.keep) (I.keeps F9.keep) (Ext.isList F9.keep hD) (Int.natCast_nonneg _) (cast_lt hjk) hle (by show dp + 1 + _ + 5 < _; omega) ?_
    intro h8 tk8 t8 hx8
    have F8 := Ext.fr hx8 F9
    have N8 : News s.heap L h8 [] := News.nil
    (try dsimp only)
    clear N9
    repeat' (first | ((with_reducible show wpAny _ _ (binaryOp Operator.Mult (Value.int _ _) (Value.int _ _)) _ _ _); (refine mulE (by assumption) (by omega) (by omega) ?_)) | ((with_reducible show wpAny _ _ (binaryOp Operator.LShift (Value.int _ _) (Value.int _ _)) _ _ _); (refine lshE rfl (by assumption) (by assumption) (by assumption) ?_)) | ((with_reducible show wpAny _ _ (binaryOp Operator.RShift (Value.int _ _) (Value.int _ _)) _ _ _); first | (refine rsh1E (by assumption) (by omega) ?_) | (refine rshE (by assumption) (by assumption) ?_)) | ((with_reducible show (@ite Prop _ _ _ _)); first | refine iteT (by assumption) ?_ | refine iteF (by assumption) ?_) | ((with_reducible show wpAny _ _ (call (Value.ref _) _) _ _ _); (refine stop_of ?_)) | ((with_reducible show wpAny _ _ (subscriptTail (PySem.Expr.Name _ _) (PySem.Expr.Name _ _) (Value.ref _) (Value.int _ _)) _ _ _); (k_dflt (refine item_anyK (Ext.isList (Fr.keep (by assumption)) (by assumption)) (by assumption) (by assumption) (by omega) (by omega) ?_); intro t')) | ((with_reducible show wpAny _ _ (eval (PySem.Expr.Name _ _) _) _ _ _); (first | ((with_reducible show wpAny _ _ (eval (Expr.Name (Str.ofString "n") _) _) _ _ _); k_dflt (refine nameFree ((In2.n (by assumption)).keeps (Fr.keep (by assumption))) rfl ?_)) | ((with_reducible show wpAny _ _ (eval (Expr.Name (Str.ofString "inner") _) _) _ _ _); k_dflt (refine nameFree ((In2.inner (by assumption)).keeps (Fr.keep (by assumption))) rfl ?_)) | ((with_reducible show wpAny _ _ (eval (Expr.Name (Str.ofString "digits") _) _) _ _ _); k_dflt (refine nameFree ((In2.dig (by assumption)).keeps (Fr.keep (by assumption))) rfl ?_)))) | walk1 | (dsimp only; walk1) | fail "no step")
    refine ⟨?_⟩
    (try dsimp only [List.nil_append])
    refine IH j hjk hj0 _ _ _ _ _ _ _ _ _ _ _ (hs.trans F8.keep) (I.keeps F8.keep) (Ext.isList F8.keep hD) hlo (Int.natCast_add a j) (Int.ofNat_le.mpr (Nat.le_trans (Nat.add_le_add_left (Nat.le_of_lt hjk) a) ham)) (by show dp + 1 + _ + 5 < _; omega) ?_
    intro h7 tk7 t7 hx7
    have F7 := Ext.fr hx7 F8
    (try dsimp only)
    repeat' (first | ((with_reducible show wpAny _ _ (binaryOp Operator.Mult (Value.int _ _) (Value.int _ _)) _ _ _); (refine mulE (by assumption) (by omega) (by omega) ?_)) | ((with_reducible show wpAny _ _ (binaryOp Operator.LShift (Value.int _ _) (Value.int _ _)) _ _ _); (refine lshE rfl (by assumption) (by assumption) (by assumption) ?_)) | ((with_reducible show wpAny _ _ (binaryOp Operator.RShift (Value.int _ _) (Value.int _ _)) _ _ _); first | (refine rsh1E (by assumption) (by omega) ?_) | (refine rshE (by assumption) (by assumption) ?_)) | ((with_reducible show (@ite Prop _ _ _ _)); first | refine iteT (by assumption) ?_ | refine iteF (by assumption) ?_) | ((with_reducible show wpAny _ _ (call (Value.ref _) _) _ _ _); (refine stop_of ?_)) | ((with_reducible show wpAny _ _ (subscriptTail (PySem.Expr.Name _ _) (PySem.Expr.Name _ _) (Value.ref _) (Value.int _ _)) _ _ _); (k_dflt (refine item_anyK (Ext.isList (Fr.keep (by assumption)) (by assumption)) (by assumption) (by assumption) (by omega) (by omega) ?_); intro t')) | ((with_reducible show wpAny _ _ (eval (PySem.Expr.Name _ _) _) _ _ _); (first | ((with_reducible show wpAny _ _ (eval (Expr.Name (Str.ofString "n") _) _) _ _ _); k_dflt (refine nameFree ((In2.n (by assumption)).keeps (Fr.keep (by assumption))) rfl ?_)) | ((with_reducible show wpAny _ _ (eval (Expr.Name (Str.ofString "inner") _) _) _ _ _); k_dflt (refine nameFree ((In2.inner (by assumption)).keeps (Fr.keep (by assumption))) rfl ?_)) | ((with_reducible show wpAny _ _ (eval (Expr.Name (Str.ofString "digits") _) _) _ _ _); k_dflt (refine nameFree ((In2.dig (by assumption)).keeps (Fr.keep (by assumption))) rfl ?_)))) | walk1 | (dsimp only; walk1) | fail "no step")
    (try dsimp only)
    exact ret_int hsum (hret _ _ _ F7.keep)
theorem inner2_all {f cn ci ca D c' : Addr} {n : Int} {tn : Tok} {doc pm ctv : Value} {vs : List Value} {ns : List Int} (X : (KK w.params).In h₀) (T : Top p loose mean mg mb h₀) (hn : 0 < n) (hn2 : n ≤ 64)
    (hI : IntsAre vs ns) (hlen : ns.length ≤ 64) (hds : ∀ d ∈ ns, 0 ≤ d ∧ d < 2 ^ n.toNat) :
    ∀ k : Nat, 0 < k → Inner2 prog w f cn ci ca D c' n tn doc pm ctv h₀ vs ns k := by
  intro k
  induction k using Nat.strongRecOn with
  | ind k ih => exact fun h1 => inner2_step X T hn hn2 hI hlen hds k (fun j hj h0 => ih j hj h0) h1
end Mine
end PartF4

section PartF6
open PySem PySem.W PyProof.Rows PySem.Calls
namespace Mine
theorem offF6 : True := by w_top off; trivial
variable {prog : Program} {w : World} {dp un : Nat} {gd : Option (List Code)} {fr : Option (List Env)} {s : Shared} {p : Program} {loose : List Str} {mean : ExcName → Option Value} {mg mb : Str → Option Value} {h₀ : Heap} {Q : Value → Shared → Prop} {E : Value → Shared → Prop}
set_option maxRecDepth 100000 in
set_option maxHeartbeats 8000000 in
set_option pp.deepTerms false in
set_option pp.deepTerms.threshold 8 in
theorem d2i_new {n : Int} {D : Addr} {vs : List Value} {ns : List Int} {u : Tok} (X : (KK w.params).In h₀) (T : Top p loose mean mg mb h₀) (hs : Ext h₀ s.heap) (h37 : h₀.get? 37 = none) (C : CodeHd h₀ 41 37)
    (hroom : dp + 100 < recursionLimit) (hun : un + 100 < cLine) (hP : s.heap.get? 37 = some (tabObj #[])) {o30 : Obj} (hP30 : s.heap.get? 30 = some o30)
    (hD : s.heap.IsList D vs.toArray) (hI : IntsAre vs ns) (hpos : 0 < ns.length) (hlen : ns.length ≤ 64) (hds : ∀ d ∈ ns, 0 ≤ d ∧ d < 2 ^ n.toNat) (hn : 0 < n) (hn2 : n ≤ 64)
    (hret : ∀ h' tk' t' c oc cs tc, (∀ b o, b ≠ 37 → s.heap.get? b = some o → h'.get? b = some o) → h'.get? 37 = some (tabObj #[rawInt 47, rawInt 4, .ref c]) → h'.get? c = some oc → s.heap.get? c = none → oc.data = .fields cs → cs[1]? = some (.str q2 tc) → Q (.int (val n.toNat ns) t') { s with heap := h', toks := tk' }) :
    wpAny (model prog w) (AA dp un gd fr) (call (.ref 42) [.ref D, .int n u]) Q E s := by
  have X' := X.keeps (ext_hide (l := [37]) hs (by simpa using h37))
  have T' := T.keeps (ext_hide (l := [37]) hs (by simpa using h37))
  have C' := C.keeps (ext_hide (l := [37]) hs (by simpa using h37))
  refine wpAny_call ?_
  refine enterC (g := hideAll s.heap [37]) (news := [(37, tabObj #[])]) (binds := [(Str.ofString "digits", .ref D), (Str.ofString "n", .int n u)]) (hide_ext _ _) (Nat.le_of_eq (hideAll_size _ _))
    (by intro p hp; simp at hp; subst hp; exact ⟨hP, hideAll_none _ (.head _)⟩) T'.nolimit (hide_ext _ _ _ _ (X' _ _ (by k_is))) rfl (codeRec_of (X'.keeps (hide_ext _ _)) (by k_is)) (by show dp < recursionLimit; omega) (BindsTo.of_eq rfl) rfl (by decide +kernel) ?_ rfl rfl rfl
  intro L h₁ tk cells F N Y hl hL hext
  have hgs : ∀ b o, b ≠ 37 → s.heap.get? b = some o → (hideAll s.heap [37]).get? b = some o := fun b o hb e => hideAll_get _ e (by simpa using hb)
  have hDg : (hideAll s.heap [37]).IsList D vs.toArray := by
    obtain ⟨o, e1, e2, e3⟩ := hD
    exact ⟨o, hgs _ _ (fun q => by rw [q, hP] at e1; cases e1; cases e2) e1, e2, e3⟩
  generalize hideAll s.heap [37] = g at *
  clear X T C
  k_cells Y
  simp only [List.cons_append, List.nil_append] at N
  (try dsimp only)
  have h37L : (37 : Nat) < L := hl _ (.head _)
  clear hl
  repeat' (first | ((with_reducible show wpAny _ _ (call (Value.ref _) _) _ _ _); (refine stop_of ?_)) | walk1 | (dsimp only; walk1) | fail "no step")
  rename_i oi0 on od dd1 dn ddg f c oc vs' t' ct dc ha1 tk' dc1 dc2 lc lf h' oi F9 N9 di
  refine ⟨?_⟩
  have I9 : In2 h' f (L + 1 + 1) (L + 1 + 1 + 1) (L + 1) D c n u dc ((mg (Str.ofString "__name__")).getD Value.none) ct :=
    ⟨N9.get (.head _), ⟨c, oc, vs', t', rfl, N9.get (.tail _ (.head _)), dc1, dc2⟩, ⟨on, N9.get (by k_mem), dn⟩, ⟨oi, N9.get (by k_mem), di⟩, ⟨od, N9.get (by k_mem), ddg⟩⟩
  refine inner2_all (h₀ := g) X' T' hn hn2 hI hlen hds ns.length hpos _ _ _ _ _ _ _ _ _ _ _ F9.keep I9 (Ext.isList F9.keep hDg) (by omega) (by omega) (by omega) (by show dp + 1 + _ + 5 < _; omega) ?_
  intro h7 tk7 t7 hx7
  have F7 := Ext.fr hx7 F9
  have N7 := Ext.news hx7 N9
  have hP7 : h7.get? 37 = some (tabObj #[rawInt 47, rawInt 4, .ref c]) := N7.get (by k_mem)
  have gc : g.get? c = none := (N9 _ (.tail _ (.head _))).2.2
  have hsc : s.heap.get? c = none := by
    cases q : s.heap.get? c with
    | none => rfl
    | some o => have := hgs c o (Nat.ne_of_gt (by omega)) q; rw [gc] at this; cases this
  (try dsimp only)
  refine ret_int ?_ (hret h7 _ _ c oc vs' t' (fun b o hb e => F7.keep b o (hgs b o hb e)) hP7 (N7.get (.tail _ (.head _))) hsc dc1 dc2)
  simp [part]
set_option maxRecDepth 100000 in
set_option maxHeartbeats 8000000 in
set_option pp.deepTerms false in
set_option pp.deepTerms.threshold 8 in
theorem d2i_hit {n : Int} {D : Addr} {vs : List Value} {ns : List Int} {u : Tok} (X : (KK w.params).In h₀) (T : Top p loose mean mg mb h₀) (hs : Ext h₀ s.heap) (h37 : h₀.get? 37 = none) (C : CodeHd h₀ 41 37)
    (hroom : dp + 100 < recursionLimit) (hun : un + 100 < cLine) {c : Addr} (hP : s.heap.get? 37 = some (tabObj #[rawInt 47, rawInt 4, .ref c])) (hc1 : c ≠ 30) (hc2 : c ≠ 37) (hc : s.heap.CodeRec (.ref c) q2) {o30 : Obj} (hP30 : s.heap.get? 30 = some o30)
    (hD : s.heap.IsList D vs.toArray) (hI : IntsAre vs ns) (hpos : 0 < ns.length) (hlen : ns.length ≤ 64) (hds : ∀ d ∈ ns, 0 ≤ d ∧ d < 2 ^ n.toNat) (hn : 0 < n) (hn2 : n ≤ 64)
    (hret : ∀ h' tk' t', Ext s.heap h' → Q (.int (val n.toNat ns) t') { s with heap := h', toks := tk' }) :
    wpAny (model prog w) (AA dp un gd fr) (call (.ref 42) [.ref D, .int n u]) Q E s := by
  have X' := X.keeps (ext_hide (l := [37]) hs (by simpa using h37))
  have T' := T.keeps (ext_hide (l := [37]) hs (by simpa using h37))
  have C' := C.keeps (ext_hide (l := [37]) hs (by simpa using h37))
  refine wpAny_call ?_
  refine enterC (g := hideAll s.heap [37]) (news := [(37, tabObj #[rawInt 47, rawInt 4, .ref c])]) (binds := [(Str.ofString "digits", .ref D), (Str.ofString "n", .int n u)]) (hide_ext _ _) (Nat.le_of_eq (hideAll_size _ _))
    (by intro p hp; simp at hp; subst hp; exact ⟨hP, hideAll_none _ (.head _)⟩) T'.nolimit (hide_ext _ _ _ _ (X' _ _ (by k_is))) rfl (codeRec_of (X'.keeps (hide_ext _ _)) (by k_is)) (by show dp < recursionLimit; omega) (BindsTo.of_eq rfl) rfl (by decide +kernel) ?_ rfl rfl rfl
  intro L h₁ tk cells F N Y hl hL hext
  have hgs : ∀ b o, b ≠ 37 → s.heap.get? b = some o → (hideAll s.heap [37]).get? b = some o := fun b o hb e => hideAll_get _ e (by simpa using hb)
  have hDg : (hideAll s.heap [37]).IsList D vs.toArray := by
    obtain ⟨o, e1, e2, e3⟩ := hD
    exact ⟨o, hgs _ _ (fun q => by rw [q, hP] at e1; cases e1; cases e2) e1, e2, e3⟩
  generalize hideAll s.heap [37] = g at *
  clear X T C
  k_cells Y
  simp only [List.cons_append, List.nil_append] at N
  (try dsimp only)
  have h37L : (37 : Nat) < L := hl _ (.head _)
  clear hl
  repeat' (first | ((with_reducible show wpAny _ _ (call (Value.ref _) _) _ _ _); (refine stop_of ?_)) | walk1 | (dsimp only; walk1) | fail "no step")
  rename_i oi0 on od dd1 dn ddg f ct dc ha1 tk' lf h' oi F9 N9 di
  refine ⟨?_⟩
  obtain ⟨_, oc, vs', t', hcr, hco, dc1, dc2⟩ := hc
  cases hcr
  have hcg := hgs _ _ hc2 hco
  have I9 : In2 h' f (L + 1 + 1) (L + 1 + 1 + 1) (L + 1) D c n u dc ((mg (Str.ofString "__name__")).getD Value.none) ct :=
    ⟨N9.get (.head _), ⟨c, oc, vs', t', rfl, F9.keep _ _ hcg, dc1, dc2⟩, ⟨on, N9.get (by k_mem), dn⟩, ⟨oi, N9.get (by k_mem), di⟩, ⟨od, N9.get (by k_mem), ddg⟩⟩
  refine inner2_all (h₀ := g) X' T' hn hn2 hI hlen hds ns.length hpos _ _ _ _ _ _ _ _ _ _ _ F9.keep I9 (Ext.isList F9.keep hDg) (by omega) (by omega) (by omega) (by show dp + 1 + _ + 5 < _; omega) ?_
  intro h7 tk7 t7 hx7
  have F7 := Ext.fr hx7 F9
  have N7 := Ext.news hx7 N9
  have hP7 : h7.get? 37 = some (tabObj #[rawInt 47, rawInt 4, .ref c]) := N7.get (by k_mem)
  (try dsimp only)
  refine ret_int ?_ (hret h7 _ _ (fun b o e => by
      by_cases hb : b = 37
      · subst hb; rw [hP] at e; cases e; exact hP7
      · exact F7.keep b o (hgs b o hb e)))
  simp [part]
end Mine
end PartF6

section PartF7
open PySem PySem.W PyProof.Rows PySem.Calls
namespace Mine
theorem offF7 : True := by w_top off; trivial
variable {prog : Program} {w : World} {dp un : Nat} {gd : Option (List Code)} {fr : Option (List Env)} {s : Shared} {p : Program} {loose : List Str} {mean : ExcName → Option Value} {mg mb : Str → Option Value} {h₀ : Heap} {Q : Value → Shared → Prop} {E : Value → Shared → Prop}
/-- the two tables of inner code, filled -/
structure Filled (h : Heap) : Prop where
  a : ∃ c, h.get? 30 = some (tabObj #[rawInt 32, rawInt 4, .ref c]) ∧ c ≠ 30 ∧ c ≠ 37 ∧ h.CodeRec (.ref c) q1
  b : ∃ c, h.get? 37 = some (tabObj #[rawInt 47, rawInt 4, .ref c]) ∧ c ≠ 30 ∧ c ≠ 37 ∧ h.CodeRec (.ref c) q2
theorem Filled.keeps {h h' : Heap} (x : Filled h) (k : Ext h h') : Filled h' :=
  ⟨let ⟨c, a1, a2, a3, a4⟩ := x.a; ⟨c, k _ _ a1, a2, a3, a4.keeps k⟩, let ⟨c, a1, a2, a3, a4⟩ := x.b; ⟨c, k _ _ a1, a2, a3, a4.keeps k⟩⟩
/-- the two tables, filled since h by code that is new -/
structure NewTabs (h h' : Heap) : Prop where
  a : ∃ c oc cs t, h'.get? 30 = some (tabObj #[rawInt 32, rawInt 4, .ref c]) ∧ c ≠ 30 ∧ c ≠ 37 ∧ h.get? c = none ∧ h'.get? c = some oc ∧ oc.data = .fields cs ∧ cs[1]? = some (.str q1 t)
  b : ∃ c oc cs t, h'.get? 37 = some (tabObj #[rawInt 47, rawInt 4, .ref c]) ∧ c ≠ 30 ∧ c ≠ 37 ∧ h.get? c = none ∧ h'.get? c = some oc ∧ oc.data = .fields cs ∧ cs[1]? = some (.str q2 t)
theorem NewTabs.mono {h₁ h h' : Heap} (x : NewTabs h h') (k : Ext h₁ h) : NewTabs h₁ h' := by
  have fresh : ∀ {c : Addr}, h.get? c = none → h₁.get? c = none := by
    intro c e
    cases q : h₁.get? c with
    | none => rfl
    | some o => have := k _ _ q; rw [e] at this; cases this
  obtain ⟨⟨c, oc, cs, t, a1, a2, a3, a4, a5, a6, a7⟩, ⟨d, od, ds, u, b1, b2, b3, b4, b5, b6, b7⟩⟩ := x
  exact ⟨⟨c, oc, cs, t, a1, a2, a3, fresh a4, a5, a6, a7⟩, ⟨d, od, ds, u, b1, b2, b3, fresh b4, b5, b6, b7⟩⟩
theorem NewTabs.filled {h h' : Heap} (x : NewTabs h h') : Filled h' := by
  obtain ⟨⟨c, oc, cs, t, a1, a2, a3, a4, a5, a6, a7⟩, ⟨d, od, ds, u, b1, b2, b3, b4, b5, b6, b7⟩⟩ := x
  exact ⟨⟨c, a1, a2, a3, c, oc, cs, t, rfl, a5, a6, a7⟩, ⟨d, b1, b2, b3, d, od, ds, u, rfl, b5, b6, b7⟩⟩
theorem offI_lt {d : Addr} {it : Obj} {l : List (Addr × Obj)} : AllLt d l → OffI d it l := by
  induction l with
  | nil => intro _; exact trivial
  | cons a r ih => intro h; exact ⟨.inl (Nat.ne_of_lt h.1), ih h.2⟩
theorem lt_all {d : Nat} {l : List (Addr × Obj)} : AllLt d l → ∀ p ∈ l, @LT.lt Nat _ p.1 d := by
  induction l with
  | nil => intro _ p hp; cases hp
  | cons a r ih =>
    intro h p hp
    cases hp with
    | head => exact h.1
    | tail _ hp => exact ih h.2 p hp
local macro_rules | `(tactic| k_all) => `(tactic| assumption)
inductive DmpJ (a b : Int) (u : Tok) (d : Int) (qd : Addr) (ol : Obj) (ax : Addr) (nw : List (Addr × Obj)) (ws : List Value) (m : Str → Option Value) (news : List (Addr × Obj)) : Prop
  | mk (js : List Int) (rv : Int) (qs : List Int) (ys : List Value) (eq : Nat) (tr tn : Tok) : IntsAre ws js → m (Str.ofString "r") = some (.int rv tr) → m (Str.ofString "n") = some (.int (Builtin.Int.intBits b) tn) → m (Str.ofString "b") = some (.int b u) → m (Str.ofString "q_digits") = some (.ref qd) →
      news = (qd, W.listOf ys.toArray eq) :: (ax, ol) :: nw → IntsAre ys qs → (qs.length + js.length = d.toNat) → 0 ≤ rv → rv < b → (∀ x ∈ js, 0 ≤ x ∧ x < 2 ^ Builtin.Int.intBits b) → (∀ x ∈ qs, 0 ≤ x ∧ x < 2 ^ Builtin.Int.intBits b) →
      a = (b * wal (Builtin.Int.intBits b) qs + rv) * 2 ^ (Builtin.Int.intBits b * js.length) + wal (Builtin.Int.intBits b) js → DmpJ a b u d qd ol ax nw ws m news
set_option maxRecDepth 100000 in
set_option maxHeartbeats 8000000 in
set_option pp.deepTerms false in
set_option pp.deepTerms.threshold 8 in
theorem dmp_any {g : Heap} {news : List (Addr × Obj)} {P : Nat → List (Addr × Obj) → Prop} {a b d : Int} {t u : Tok} (X : (KK w.params).In g) (T : Top p loose mean mg mb g) (hg : Ext g s.heap) (hsz : g.objs.size ≤ s.heap.objs.size)
    (N0 : ∀ p ∈ news, s.heap.get? p.1 = some p.2 ∧ g.get? p.1 = none) (P0 : P 0 news) (hroom : dp + 110 < recursionLimit) (hun : un + 110 < cLine)
    (ha : 0 < a) (hb : 0 < b) (hb2 : b < 1000000000000) (hd : ((Builtin.Int.intBits a : Int) + (Builtin.Int.intBits b : Int) - 1).fdiv (Builtin.Int.intBits b : Int) = d) (hd0 : 0 < d) (hd2 : d ≤ 64)
    (hi2d : ∀ L m nw h1 tk1 t u fr2 (R' : Value → Shared → Prop) E', P 0 nw → Fr g L h1 m → News g L h1 nw →
      (∀ h2 tk2 ax vs is e nw2, Fr g L h2 m → News g L h2 ((ax, lst vs e) :: nw2) → P 1 nw2 → IntsAre vs is → is.length = d.toNat → (∀ d ∈ is, 0 ≤ d ∧ d < 2 ^ (Builtin.Int.intBits b : Int).toNat) → val (Builtin.Int.intBits b : Int).toNat is = a →
        R' (.ref ax) { s with heap := h2, toks := tk2 }) →
      wpAny (model prog w) (AA (dp + 1) (un + 3) gd fr2) (call (.ref 35) [.int a t, .int (Builtin.Int.intBits b) u]) R' E' { s with heap := h1, toks := tk1 })
    (hd2i : ∀ L m nw D vs e ns all h1 tk1 u fr2 (R' : Value → Shared → Prop) E', P 1 nw → Fr g L h1 m → News g L h1 all → (D, lst vs e) ∈ all → (∀ p ∈ nw, p ∈ all) → IntsAre vs ns → 0 < ns.length → ns.length ≤ 64 → (∀ d ∈ ns, 0 ≤ d ∧ d < 2 ^ (Builtin.Int.intBits b : Int).toNat) →
      (∀ h2 tk2 t' nw2, Fr g L h2 m → News g L h2 nw2 → P 2 nw2 → R' (.int (val (Builtin.Int.intBits b : Int).toNat ns) t') { s with heap := h2, toks := tk2 }) →
      wpAny (model prog w) (AA (dp + 1) (un + 3) gd fr2) (call (.ref 42) [.ref D, .int (Builtin.Int.intBits b) u]) R' E' { s with heap := h1, toks := tk1 })
    (hret : ∀ L h' tk' m r t1 t2 nw, Fr g L h' m → News g L h' ((r, tup2 (.int (a.fdiv b) t1) (.int (a.fmod b) t2)) :: nw) → P 2 nw → (∀ p ∈ nw, @LT.lt Nat _ p.1 r) → Q (.ref r) { s with heap := h', toks := tk' }) :
    wpAny (model prog w) (AA dp un gd fr) (call (.ref 49) [.int a t, .int b u]) Q E s := by
  refine wpAny_call ?_
  refine enterF (g := g) (news := news) (binds := [(Str.ofString "a", .int a t), (Str.ofString "b", .int b u)]) hg hsz N0
    T.nolimit (hg _ _ (X _ _ (by k_is))) rfl (codeRec_of (X.keeps hg) (by k_is)) (by show dp < recursionLimit; omega) (BindsTo.of_eq rfl) (locs rfl) ?_ rfl rfl rfl (by decide)
  intro L h₁ F N hl hL hext
  clear hl hL hext hsz N0
  show wpAny _ ((AA dp un gd fr).deeper (envOf (Str.ofString "_divmod_pos") _ L 49 (Value.ref 48))) (execs _ (envOf (Str.ofString "_divmod_pos") _ L 49 (Value.ref 48))) _ _ _
  (try dsimp only)
  have hnb := bits_pos hb
  have hnb2 : (Builtin.Int.intBits b : Int) ≤ 64 := by have := bits64 (i := b) (by omega) (by omega); omega
  repeat' (first | ((with_reducible show wpAny _ _ (binaryOp Operator.LShift (Value.int _ _) (Value.int _ _)) _ _ _); (refine lshE rfl (by assumption) (by assumption) (by assumption) ?_)) | ((with_reducible show UnrEnd _ _ _ _ _ _ _); (refine stop_of ?_)) | ((with_reducible show wpAny _ _ (eval (PySem.Expr.Name _ _) _) _ _ _); (k_dflt (refine ld (by assumption) (by assumption) ?_))) | ((with_reducible show wpAny _ _ (call (Value.ref _) _) _ _ _); (refine stop_of ?_)) | walk1 | (dsimp only; walk1) | fail "no step")
  refine ⟨?_⟩
  rename Fr _ _ _ _ => F9
  rename News _ _ _ _ => N9
  refine hi2d _ _ _ _ _ _ _ _ _ _ P0 F9 N9 ?_
  intro h8 tk8 ax vs is e nw F8 N8 P1 hI8 hl8 hb8 hv8
  clear F9 N9
  (try dsimp only)
  repeat' (first | ((with_reducible show wpAny _ _ (binaryOp Operator.LShift (Value.int _ _) (Value.int _ _)) _ _ _); (refine lshE rfl (by assumption) (by assumption) (by assumption) ?_)) | ((with_reducible show UnrEnd _ _ _ _ _ _ _); (refine stop_of ?_)) | ((with_reducible show wpAny _ _ (eval (PySem.Expr.Name _ _) _) _ _ _); (k_dflt (refine ld (by assumption) (by assumption) ?_))) | ((with_reducible show wpAny _ _ (call (Value.ref _) _) _ _ _); (refine stop_of ?_)) | walk1 | (dsimp only; walk1) | fail "no step")
  rename_i h7 tk7 h6 qd h5 lqd h4 D h3 F3 N3 lD
  have hne1 : qd ≠ D := Nat.ne_of_lt lD.1
  have hne2 : ax ≠ D := Nat.ne_of_lt lD.2.1
  have hne3 : qd ≠ ax := Nat.ne_of_gt lqd.1
  have hoD : ∀ p ∈ nw, p.1 ≠ D := fun p hp => Nat.ne_of_lt (lt_all lD.2.2 p hp)
  have hoq : ∀ p ∈ nw, p.1 ≠ qd := fun p hp => Nat.ne_of_lt (lt_all lqd.2 p hp)
  refine iter_revUnr (lo := lst vs e) (vs := vs) rfl F3 N3 ⟨.inl hne1, .inl hne2, offI_lt lD.2.2⟩ (by k_mem) rfl rfl ?_
  refine rev_ind (J := DmpJ a b u d qd (lst vs e) ax nw) ?zero ?succ _ _ _
    ⟨is.reverse, 0, [], [], 0, _, _, PyProof.Rows.IntsAre.reverse hI8, rfl, rfl, rfl, rfl, rfl, .nil, by simp [hl8], by omega, hb, fun x hx => by simpa using hb8 x (by simpa using hx), (by simp), ?init⟩
  case init => 
    simp only [Int.toNat_natCast] at hv8
    simp [wal, hv8, val]
  case succ =>
    rintro v r m news ⟨js, rv, qs, ys, eq, tr, tn, hW, mr, mn, mb', mq, rfl, hY, hlen, hr0, hr1, hjs, hqs, hsum⟩ it h2 tk2 hic F2 N2
    obtain ⟨dg, jr, rfl⟩ : ∃ dg jr, js = dg :: jr := by cases hW; exact ⟨_, _, rfl⟩
    obtain ⟨td, vr, hvr, hW'⟩ := IntsAre.cons_inv hW
    cases hvr
    have hrb : Builtin.Int.intBits rv ≤ 10000 := Nat.le_trans (bits64 (by omega) (by omega)) (by decide)
    have hn0 : (0 : Int) ≤ Builtin.Int.intBits b := by omega
    have hn1 : (Builtin.Int.intBits b : Int) ≤ 10000 := by omega
    obtain ⟨hd0', hd1'⟩ := hjs dg (.head _)
    have HS := horner_step hb hr0 hr1 hd0' hd1' hsum
    (try dsimp only)
    repeat' (first | ((with_reducible show wpAny _ _ (binaryOp Operator.LShift (Value.int _ _) (Value.int _ _)) _ _ _); (refine lshE rfl (by assumption) (by assumption) (by assumption) ?_)) | ((with_reducible show UnrEnd _ _ _ _ _ _ _); (refine stop_of ?_)) | ((with_reducible show wpAny _ _ (eval (PySem.Expr.Name _ _) _) _ _ _); (k_dflt (refine ld (by assumption) (by assumption) ?_))) | ((with_reducible show wpAny _ _ (call (Value.ref _) _) _ _ _); (refine stop_of ?_)) | walk1 | (dsimp only; walk1) | fail "no step")
    refine ⟨?_⟩
    simp only [Int.toNat_natCast]
    refine div21_spec (X.keeps F2.keep) (T.keeps F2.keep) (by show dp + 1 + 5 < _; omega) (by show un + 3 + 30 < _; omega) (dm_bits hb hb2 hr0 hr1 hd0' hd1') hn0 hb (by omega) ?_
    intro h1 tk1 rr t1 t2 hx1 hf1 hg1
    obtain ⟨HS1, HS2, HS3, HS4, HS5⟩ := HS
    generalize (rv * 2 ^ Builtin.Int.intBits b + dg).fdiv b = q at *
    generalize (rv * 2 ^ Builtin.Int.intBits b + dg).fmod b = rv' at *
    have F1 := Ext.fr hx1 F2
    have nb : ∀ {x o}, h2.get? x = some o → rr ≠ x := fun e1 q => by rw [q, e1] at hf1; cases hf1
    have N1 : News g L h1 ((rr, tup2 (.int q t1) (.int rv' t2)) :: (D, it) :: (qd, W.listOf ys.toArray eq) :: (ax, lst vs e) :: nw) := Mine.News.one hg1 (Mine.Fr.fresh F2 hf1) (Ext.news hx1 N2)
    have hne4 : rr ≠ qd := nb (N2.get (by k_mem))
    have hne5 : rr ≠ D := nb (N2.get (by k_mem))
    have hne6 : rr ≠ ax := nb (N2.get (by k_mem))
    clear F2 N2
    (try dsimp only)
    repeat' (first | ((with_reducible show wpAny _ _ (binaryOp Operator.LShift (Value.int _ _) (Value.int _ _)) _ _ _); (refine lshE rfl (by assumption) (by assumption) (by assumption) ?_)) | ((with_reducible show UnrEnd _ _ _ _ _ _ _); (refine stop_of ?_)) | ((with_reducible show wpAny _ _ (eval (PySem.Expr.Name _ _) _) _ _ _); (k_dflt (refine ld (by assumption) (by assumption) ?_))) | ((with_reducible show wpAny _ _ (call (Value.ref _) _) _ _ _); (refine stop_of ?_)) | walk1 | (dsimp only; walk1) | fail "no step")
    refine ⟨?_⟩
    rename_i h9 F9 N9
    refine ⟨h9, _, _, (qd, W.listOf (ys ++ [Value.int q t1]).toArray (eq + 1)) :: (ax, lst vs e) :: nw, rfl, F9, ?_, ?_, (.tail _ (.head _)), ?_⟩
    · have ea : (ys ++ [Value.int q t1]).toArray = ys.toArray.push (.int q t1) := by simp
      rw [ea]
      exact cb_drop N9 (by intro p hp; exact .tail _ hp)
    · intro p hp
      rcases List.mem_cons.mp hp with rfl | hp
      · exact hne1
      rcases List.mem_cons.mp hp with rfl | hp
      · exact hne2
      · exact hoD p hp
    · refine ⟨jr, rv', qs ++ [q], ys ++ [Value.int q t1], eq + 1, t2, tn, hW', rfl, mn, mb', mq, rfl, PyProof.Rows.IntsAre.append hY (by constructor; constructor), ?_, HS4, HS5, fun x hx => hjs x (.tail _ hx), ?_, HS1⟩
      · simp at hlen ⊢; omega
      · intro x hx
        rcases List.mem_append.mp hx with h | h
        · exact hqs x h
        · simp at h; subst h; exact ⟨HS2, HS3⟩
  case zero =>
    rintro m news ⟨js, rv, qs, ys, eq, tr, tn, hW, mr, mn, mb', mq, rfl, hY, hlen, hr0, hr1, hjs, hqs, hsum⟩ h2 tk2 F2 N2
    cases hW
    obtain ⟨He1, He2⟩ := horner_end hb hr0 hr1 hsum
    simp only [List.length_nil, Nat.add_zero] at hlen
    (try dsimp only)
    repeat' (first | ((with_reducible show wpAny _ _ (binaryOp Operator.LShift (Value.int _ _) (Value.int _ _)) _ _ _); (refine lshE rfl (by assumption) (by assumption) (by assumption) ?_)) | ((with_reducible show UnrEnd _ _ _ _ _ _ _); (refine stop_of ?_)) | ((with_reducible show wpAny _ _ (eval (PySem.Expr.Name _ _) _) _ _ _); (k_dflt (refine ld (by assumption) (by assumption) ?_))) | ((with_reducible show wpAny _ _ (call (Value.ref _) _) _ _ _); (refine stop_of ?_)) | walk1 | (dsimp only; walk1) | fail "no step")
    show wpAny _ _ (call (Value.builtin "list.reverse") [Value.ref qd]) _ _ _
    have hyl := hY.length
    refine kl_reverse F2 N2 (l := ys.reverse) (by simp) (Upd.head (List.forall_mem_cons.mpr ⟨fun q => hne3 q.symm, hoq⟩)) (by rw [sizeLine_eq]; simp; omega) ?_
    intro h9 F9 N9
    have hI9 := PyProof.Rows.IntsAre.reverse hY
    clear F2 N2
    (try dsimp only)
    repeat' (first | ((with_reducible show wpAny _ _ (binaryOp Operator.LShift (Value.int _ _) (Value.int _ _)) _ _ _); (refine lshE rfl (by assumption) (by assumption) (by assumption) ?_)) | ((with_reducible show UnrEnd _ _ _ _ _ _ _); (refine stop_of ?_)) | ((with_reducible show wpAny _ _ (eval (PySem.Expr.Name _ _) _) _ _ _); (k_dflt (refine ld (by assumption) (by assumption) ?_))) | ((with_reducible show wpAny _ _ (call (Value.ref _) _) _ _ _); (refine stop_of ?_)) | walk1 | (dsimp only; walk1) | fail "no step")
    refine ⟨?_⟩
    have hqr : ∀ x ∈ qs.reverse, 0 ≤ x ∧ x < 2 ^ (Builtin.Int.intBits b : Int).toNat := fun x hx => by simpa using hqs x (by simpa using hx)
    refine hd2i _ _ nw qd _ _ _ _ _ _ _ _ _ _ P1 F9 N9 (.head _) (fun p hp => .tail _ (.tail _ hp)) hI9 (by simp; omega) (by simp; omega) hqr ?_
    intro h1 tk1 t9 nw2 F1 N1 P2
    have ev : val (Builtin.Int.intBits b : Int).toNat qs.reverse = a.fdiv b := by rw [Int.toNat_natCast]; exact He1
    rw [ev]
    subst He2
    clear F9 N9
    (try dsimp only)
    repeat' (first | ((with_reducible show wpAny _ _ (binaryOp Operator.LShift (Value.int _ _) (Value.int _ _)) _ _ _); (refine lshE rfl (by assumption) (by assumption) (by assumption) ?_)) | ((with_reducible show UnrEnd _ _ _ _ _ _ _); (refine stop_of ?_)) | ((with_reducible show wpAny _ _ (eval (PySem.Expr.Name _ _) _) _ _ _); (k_dflt (refine ld (by assumption) (by assumption) ?_))) | ((with_reducible show wpAny _ _ (call (Value.ref _) _) _ _ _); (refine stop_of ?_)) | walk1 | (dsimp only; walk1) | fail "no step")
    rename_i h0 D0 h00 F0 N0 l0
    exact hret _ _ _ _ D0 _ _ nw2 F0 N0 P2 l0
theorem dmp_hit {a b d : Int} {t u : Tok} (X : (KK w.params).In h₀) (T : Top p loose mean mg mb h₀) (hs : Ext h₀ s.heap) (h30 : h₀.get? 30 = none) (h37 : h₀.get? 37 = none) (C1 : CodeHd h₀ 34 30) (C2 : CodeHd h₀ 41 37)
    (hroom : dp + 110 < recursionLimit) (hun : un + 110 < cLine) (hP : Filled s.heap)
    (ha : 0 < a) (hb : 0 < b) (hb2 : b < 1000000000000) (hd : ((Builtin.Int.intBits a : Int) + (Builtin.Int.intBits b : Int) - 1).fdiv (Builtin.Int.intBits b : Int) = d) (hd0 : 0 < d) (hd2 : d ≤ 64)
    (hret : ∀ h' tk' r t1 t2, Ext s.heap h' → s.heap.get? r = none → h'.get? r = some (tup2 (.int (a.fdiv b) t1) (.int (a.fmod b) t2)) → Q (.ref r) { s with heap := h', toks := tk' }) :
    wpAny (model prog w) (AA dp un gd fr) (call (.ref 49) [.int a t, .int b u]) Q E s := by
  refine dmp_any (news := []) (P := fun _ _ => True) (X.keeps hs) (T.keeps hs) (Ext.refl _) (Nat.le_refl _) (fun _ h => nomatch h) trivial hroom hun ha hb hb2 hd hd0 hd2 ?_ ?_ ?_
  · intro L m nw h1 tk1 t u fr2 R' E' _ F N hk
    obtain ⟨⟨c1, t1, t2, t3, t4⟩, ⟨c2, t5, t6, t7, t8⟩⟩ := hP
    refine i2d_hit (s := { s with heap := h1, toks := tk1 }) (h₀ := h₀) X T (hs.trans F.keep) h30 C1 (by omega) (by omega) (F.keep _ _ t1) t2 t3 (t4.keeps F.keep) (F.keep _ _ t5) ha (bits_pos hb) (by have := bits64 (i := b) (by omega) (by omega); omega) hd hd0 hd2 ?_
    intro h8 tk8 ax vs is e hx hr hf hI hl hb8 hv
    exact hk h8 tk8 ax vs is e nw (Ext.fr hx F) (Mine.News.one hr (Mine.Fr.fresh F hf) (Ext.news hx N)) trivial hI hl hb8 hv
  · intro L m nw D vs e ns all h1 tk1 u fr2 R' E' _ F N hD _ hI h0 h64 hds hk
    obtain ⟨⟨c1, t1, t2, t3, t4⟩, ⟨c2, t5, t6, t7, t8⟩⟩ := hP
    refine d2i_hit (s := { s with heap := h1, toks := tk1 }) (h₀ := h₀) X T (hs.trans F.keep) h37 C2 (by omega) (by omega) (F.keep _ _ t5) t6 t7 (t8.keeps F.keep) (F.keep _ _ t1) (PySem.IsL.isList (N.get hD)) hI h0 h64 hds (bits_pos hb) (by have := bits64 (i := b) (by omega) (by omega); omega) ?_
    intro h8 tk8 t9 hx
    exact hk h8 tk8 t9 all (Ext.fr hx F) (Ext.news hx N) trivial
  · intro L h' tk' m r t1 t2 nw F N _ _
    exact hret h' tk' r t1 t2 F.keep (N _ (.head _)).2.2 (N _ (.head _)).1
end Mine
end PartF7

section PartF8
open PySem PySem.W PyProof.Rows PySem.Calls
namespace Mine
variable {prog : Program} {w : World} {dp un : Nat} {gd : Option (List Code)} {fr : Option (List Env)} {s : Shared} {p : Program} {loose : List Str} {mean : ExcName → Option Value} {mg mb : Str → Option Value} {h₀ : Heap} {Q : Value → Shared → Prop} {E : Value → Shared → Prop}
/-- the first table stands filled in the ledger, the second is empty; then both stand filled -/
def Tab1 (nw : List (Addr × Obj)) : Prop := ∃ c oc cs t, (30, tabObj #[rawInt 32, rawInt 4, .ref c]) ∈ nw ∧ c ≠ 30 ∧ c ≠ 37 ∧ (c, oc) ∈ nw ∧ oc.data = .fields cs ∧ cs[1]? = some (.str q1 t)
def Tab2 (nw : List (Addr × Obj)) : Prop := ∃ c oc cs t, (37, tabObj #[rawInt 47, rawInt 4, .ref c]) ∈ nw ∧ c ≠ 30 ∧ c ≠ 37 ∧ (c, oc) ∈ nw ∧ oc.data = .fields cs ∧ cs[1]? = some (.str q2 t)
def tabsD (i : Nat) (nw : List (Addr × Obj)) : Prop := match i with
  | 0 => nw = [(30, tabObj #[]), (37, tabObj #[])]
  | 1 => Tab1 nw ∧ (37, tabObj #[]) ∈ nw
  | _ => Tab1 nw ∧ Tab2 nw
theorem dmp_new {a b d : Int} {t u : Tok} (X : (KK w.params).In h₀) (T : Top p loose mean mg mb h₀) (hs : Ext h₀ s.heap) (h30 : h₀.get? 30 = none) (h37 : h₀.get? 37 = none) (C1 : CodeHd h₀ 34 30) (C2 : CodeHd h₀ 41 37)
    (hroom : dp + 110 < recursionLimit) (hun : un + 110 < cLine) (hP30 : s.heap.get? 30 = some (tabObj #[])) (hP37 : s.heap.get? 37 = some (tabObj #[]))
    (ha : 0 < a) (hb : 0 < b) (hb2 : b < 1000000000000) (hd : ((Builtin.Int.intBits a : Int) + (Builtin.Int.intBits b : Int) - 1).fdiv (Builtin.Int.intBits b : Int) = d) (hd0 : 0 < d) (hd2 : d ≤ 64)
    (hret : ∀ h' tk' r t1 t2, (∀ b o, b ≠ 30 → b ≠ 37 → s.heap.get? b = some o → h'.get? b = some o) → NewTabs s.heap h' → s.heap.get? r = none → h'.get? r = some (tup2 (.int (a.fdiv b) t1) (.int (a.fmod b) t2)) → Q (.ref r) { s with heap := h', toks := tk' }) :
    wpAny (model prog w) (AA dp un gd fr) (call (.ref 49) [.int a t, .int b u]) Q E s := by
  have hg0 : Ext h₀ (hideAll s.heap [30, 37]) := ext_hide hs (by simp [h30, h37])
  have hg30 : (hideAll s.heap [30, 37]).get? 30 = none := hideAll_none _ (.head _)
  have hg37 : (hideAll s.heap [30, 37]).get? 37 = none := hideAll_none _ (.tail _ (.head _))
  have hgs : ∀ b o, b ≠ 30 → b ≠ 37 → s.heap.get? b = some o → (hideAll s.heap [30, 37]).get? b = some o := fun b o hb hb2 e => hideAll_get _ e (by simp [hb, hb2])
  have hx1 := hide_ext s.heap [30, 37]
  have hx2 : (hideAll s.heap [30, 37]).objs.size ≤ s.heap.objs.size := Nat.le_of_eq (hideAll_size _ _)
  generalize hideAll s.heap [30, 37] = g at *
  refine dmp_any (g := g) (news := [(30, tabObj #[]), (37, tabObj #[])]) (P := tabsD) (X.keeps hg0) (T.keeps hg0) hx1 hx2
    (by intro p hp; simp only [List.mem_cons, List.not_mem_nil, or_false] at hp; rcases hp with rfl | rfl; exact ⟨hP30, hg30⟩; exact ⟨hP37, hg37⟩) rfl hroom hun ha hb hb2 hd hd0 hd2 ?_ ?_ ?_
  · intro L m nw h1 tk1 t u fr2 R' E' hp F N hk
    have hp : nw = [(30, tabObj #[]), (37, tabObj #[])] := hp
    subst hp
    have n30 := N _ (.head _)
    have n37 := N _ (.tail _ (.head _))
    refine i2d_new (s := { s with heap := h1, toks := tk1 }) (h₀ := h₀) X T (hg0.trans F.keep) h30 C1 (by omega) (by omega) n30.1 n37.1 ha (bits_pos hb) (by have := bits64 (i := b) (by omega) (by omega); omega) hd hd0 hd2 ?_
    intro h8 tk8 ax vs is e c1 oc1 cs1 tc1 hx hT hc hcf hcd1 hcd2 hcr hr hf hI hl hb8 hv
    have c30 : c1 ≠ 30 := fun q => by rw [q] at hcf; exact absurd (hcf.symm.trans n30.1) (by simp)
    have c37 : c1 ≠ 37 := fun q => by rw [q] at hcf; exact absurd (hcf.symm.trans n37.1) (by simp)
    exact hk h8 tk8 ax vs is e [(c1, oc1), (30, tabObj #[rawInt 32, rawInt 4, Value.ref c1]), (37, tabObj #[])] (Mine.Fr.but F hg30 n30.2.1.symm hx)
      (Mine.News.one hr (Mine.Fr.fresh F hf) (Mine.News.one hc (Mine.Fr.fresh F hcf) (Mine.News.one hT n30.2 (Mine.News.one (hx _ _ (by decide) n37.1) n37.2 News.nil))))
      ⟨⟨c1, oc1, cs1, tc1, .tail _ (.head _), c30, c37, .head _, hcd1, hcd2⟩, .tail _ (.tail _ (.head _))⟩ hI hl hb8 hv
  · intro L m nw D vs e ns all h1 tk1 u fr2 R' E' hp F N hD hall hI h0 h64 hds hk
    obtain ⟨⟨c1, oc1, cs1, tc1, a1, a2, a3, a4, a5, a6⟩, b1⟩ := hp
    have n37 := N _ (hall _ b1)
    have n30 := N _ (hall _ a1)
    refine d2i_new (s := { s with heap := h1, toks := tk1 }) (h₀ := h₀) X T (hg0.trans F.keep) h37 C2 (by omega) (by omega) n37.1 n30.1 (PySem.IsL.isList (N.get hD)) hI h0 h64 hds (bits_pos hb) (by have := bits64 (i := b) (by omega) (by omega); omega) ?_
    intro h8 tk8 t9 c2 oc2 cs2 tc2 hx hT hc hcf hcd3 hcd4
    have d30 : c2 ≠ 30 := fun q => by rw [q] at hcf; exact absurd (hcf.symm.trans n30.1) (by simp)
    have d37 : c2 ≠ 37 := fun q => by rw [q] at hcf; exact absurd (hcf.symm.trans n37.1) (by simp)
    have nc := N _ (hall _ a4)
    exact hk h8 tk8 t9 [(c2, oc2), (37, tabObj #[rawInt 47, rawInt 4, Value.ref c2]), (c1, oc1), (30, tabObj #[rawInt 32, rawInt 4, Value.ref c1])] (Mine.Fr.but F hg37 n37.2.1.symm hx)
      (Mine.News.one hc (Mine.Fr.fresh F hcf) (Mine.News.one hT n37.2 (Mine.News.one (hx _ _ a3 nc.1) nc.2 (Mine.News.one (hx _ _ (by decide) n30.1) n30.2 News.nil))))
      ⟨⟨c1, oc1, cs1, tc1, .tail _ (.tail _ (.tail _ (.head _))), a2, a3, .tail _ (.tail _ (.head _)), a5, a6⟩, ⟨c2, oc2, cs2, tc2, .tail _ (.head _), d30, d37, .head _, hcd3, hcd4⟩⟩
  · intro L h' tk' m r t1 t2 nw F N hp hlt
    obtain ⟨⟨c1, oc1, cs1, tc1, a1, a2, a3, a4, a5, a6⟩, ⟨c2, oc2, cs2, tc2, b1, b2, b3, b4, b5, b6⟩⟩ := hp
    have hsn : ∀ {c : Addr}, g.get? c = none → c ≠ 30 → c ≠ 37 → s.heap.get? c = none := by
      intro c h1 h2 h3
      cases q : s.heap.get? c with
      | none => rfl
      | some o => have := hgs c o h2 h3 q; rw [h1] at this; cases this
    have get : ∀ {p}, p ∈ nw → h'.get? p.1 = some p.2 ∧ p.1 ≠ L ∧ g.get? p.1 = none := fun hp => N _ (.tail _ hp)
    exact hret h' tk' r t1 t2 (fun b o hb hb2 e => F.keep b o (hgs b o hb hb2 e)) ⟨⟨c1, oc1, cs1, tc1, (get a1).1, a2, a3, hsn (get a4).2.2 a2 a3, (get a4).1, a5, a6⟩, ⟨c2, oc2, cs2, tc2, (get b1).1, b2, b3, hsn (get b4).2.2 b2 b3, (get b4).1, b5, b6⟩⟩
      (hsn (N _ (.head _)).2.2 (Nat.ne_of_gt (hlt _ a1)) (Nat.ne_of_gt (hlt _ b1))) (N _ (.head _)).1
end Mine
end PartF8

section PartF9
open PySem PySem.W PyProof.Rows PySem.Calls
namespace Mine
theorem offF9 : True := by w_top off; trivial
variable {prog : Program} {w : World} {dp un : Nat} {gd : Option (List Code)} {fr : Option (List Env)} {s : Shared} {p : Program} {loose : List Str} {mean : ExcName → Option Value} {mg mb : Str → Option Value} {h₀ : Heap} {Q : Value → Shared → Prop} {E : Value → Shared → Prop}
/-- what stands at the call: the written part, the top's facts, the two tables aside -/
structure Base (w : World) (p : Program) (loose : List Str) (mean : ExcName → Option Value) (mg mb : Str → Option Value) (h₀ : Heap) : Prop where
  X : (KK w.params).In h₀
  T : Top p loose mean mg mb h₀
  h30 : h₀.get? 30 = none
  h37 : h₀.get? 37 = none
  C1 : CodeHd h₀ 34 30
  C2 : CodeHd h₀ 41 37
/-- the size of a and b that the division is asked for -/
structure Sizes (a b d : Int) : Prop where
  ha : 0 < a
  hb : 0 < b
  hb2 : b < 1000000000000
  hd : ((Builtin.Int.intBits a : Int) + (Builtin.Int.intBits b : Int) - 1).fdiv (Builtin.Int.intBits b : Int) = d
  hd0 : 0 < d
  hd2 : d ≤ 64
set_option maxRecDepth 100000 in
set_option maxHeartbeats 8000000 in
set_option pp.deepTerms false in
set_option pp.deepTerms.threshold 8 in
theorem idm_pos_hit {a b d : Int} {t u : Tok} (B : Base w p loose mean mg mb h₀) (hs : Ext h₀ s.heap) (hroom : dp + 120 < recursionLimit) (hun : un + 120 < cLine) (hP : Filled s.heap) (S : Sizes a b d)
    (hret : ∀ h' tk' r t1 t2, Ext s.heap h' → s.heap.get? r = none → h'.get? r = some (tup2 (.int (a.fdiv b) t1) (.int (a.fmod b) t2)) → Q (.ref r) { s with heap := h', toks := tk' }) :
    wpAny (model prog w) (AA dp un gd fr) (call (.ref 56) [.int a t, .int b u]) Q E s := by
  have X' := B.X.keeps hs
  have T' := B.T.keeps hs
  have hb := S.hb
  have ha := S.ha
  refine wpAny_call ?_
  refine enter (binds := [(Str.ofString "a", .int a t), (Str.ofString "b", .int b u)]) X' T'.nolimit (by k_is) (by k_is) (by show dp < recursionLimit; omega) (BindsTo.of_eq rfl) (locs rfl) ?_ rfl rfl rfl (by decide)
  intro L h₁ F
  have N : News s.heap L h₁ [] := News.nil
  have e1 : (b == 0) = false := by simp; omega
  have e2 : decide (b < 0) = false := by simp; omega
  have e3 : decide (a < 0) = false := by simp; omega
  (try dsimp only)
  repeat' (first | ((with_reducible show (@ite Prop _ _ _ _)); first | refine iteT (by assumption) ?_ | refine iteF (by assumption) ?_) | ((with_reducible show wpAny _ _ (call (Value.ref _) _) _ _ _); (refine stop_of ?_)) | walk1 | (dsimp only; walk1) | fail "no step")
  refine ⟨?_⟩
  refine dmp_hit B.X B.T (hs.trans F.keep) B.h30 B.h37 B.C1 B.C2 (by show dp + 1 + 110 < _; omega) (by show un + 3 + 110 < _; omega) (hP.keeps F.keep) S.ha S.hb S.hb2 S.hd S.hd0 S.hd2 ?_
  intro h' tk' r t1 t2 hx hf hg
  exact hret _ _ _ _ _ (Ext.trans F.keep hx) (Mine.Fr.fresh F hf).2 hg
set_option maxRecDepth 100000 in
set_option maxHeartbeats 8000000 in
set_option pp.deepTerms false in
set_option pp.deepTerms.threshold 8 in
theorem idm_neg_hit {a b d na nb : Int} {t u : Tok} (B : Base w p loose mean mg mb h₀) (hs : Ext h₀ s.heap) (hroom : dp + 130 < recursionLimit) (hun : un + 130 < cLine) (hP : Filled s.heap) (S : Sizes a b d) (hna : na = -a) (hnb : nb = -b)
    (hret : ∀ h' tk' r t1 t2, Ext s.heap h' → s.heap.get? r = none → h'.get? r = some (tup2 (.int (a.fdiv b) t1) (.int (-(a.fmod b)) t2)) → Q (.ref r) { s with heap := h', toks := tk' }) :
    wpAny (model prog w) (AA dp un gd fr) (call (.ref 56) [.int na t, .int nb u]) Q E s := by
  have X' := B.X.keeps hs
  have T' := B.T.keeps hs
  have hb := S.hb
  have ha := S.ha
  refine wpAny_call ?_
  refine enter (binds := [(Str.ofString "a", .int na t), (Str.ofString "b", .int nb u)]) X' T'.nolimit (by k_is) (by k_is) (by show dp < recursionLimit; omega) (BindsTo.of_eq rfl) (locs rfl) ?_ rfl rfl rfl (by decide)
  intro L h₁ F
  have N : News s.heap L h₁ [] := News.nil
  have e1 : (nb == 0) = false := by simp; omega
  have e2 : decide (nb < 0) = true := by simp; omega
  (try dsimp only)
  repeat' (first | ((with_reducible show (@ite Prop _ _ _ _)); first | refine iteT (by assumption) ?_ | refine iteF (by assumption) ?_) | ((with_reducible show wpAny _ _ (call (Value.ref _) _) _ _ _); (refine stop_of ?_)) | walk1 | (dsimp only; walk1) | fail "no step")
  refine ⟨?_⟩
  rw [show -na = a by omega, show -nb = b by omega]
  refine idm_pos_hit B (hs.trans F.keep) (by show dp + 1 + 120 < _; omega) (by show un + 3 + 120 < _; omega) (hP.keeps F.keep) S ?_
  intro h8 tk8 r t1 t2 hx hf hg
  have F8 := Ext.fr hx F
  have N8 : News s.heap L h8 [(r, tup2 (.int (a.fdiv b) t1) (.int (a.fmod b) t2))] := Mine.News.one hg (Mine.Fr.fresh F hf) News.nil
  clear F N
  (try dsimp only)
  repeat' (first | ((with_reducible show (@ite Prop _ _ _ _)); first | refine iteT (by assumption) ?_ | refine iteF (by assumption) ?_) | ((with_reducible show wpAny _ _ (call (Value.ref _) _) _ _ _); (refine stop_of ?_)) | walk1 | (dsimp only; walk1) | fail "no step")
  (try dsimp only)
  rename_i h0 F0 N0 l0
  exact hret _ _ _ _ _ F0.keep (N0.fresh (.head _)) (N0.get (.head _))
set_option maxRecDepth 100000 in
set_option maxHeartbeats 8000000 in
set_option pp.deepTerms false in
set_option pp.deepTerms.threshold 8 in
theorem idm_pos_new {a b d : Int} {t u : Tok} (B : Base w p loose mean mg mb h₀) (hs : Ext h₀ s.heap) (hroom : dp + 120 < recursionLimit) (hun : un + 120 < cLine) (hP30 : s.heap.get? 30 = some (tabObj #[])) (hP37 : s.heap.get? 37 = some (tabObj #[])) (S : Sizes a b d)
    (hret : ∀ h' tk' r t1 t2, (∀ b o, b ≠ 30 → b ≠ 37 → s.heap.get? b = some o → h'.get? b = some o) → NewTabs s.heap h' → s.heap.get? r = none → h'.get? r = some (tup2 (.int (a.fdiv b) t1) (.int (a.fmod b) t2)) → Q (.ref r) { s with heap := h', toks := tk' }) :
    wpAny (model prog w) (AA dp un gd fr) (call (.ref 56) [.int a t, .int b u]) Q E s := by
  have X' := B.X.keeps hs
  have T' := B.T.keeps hs
  have hb := S.hb
  have ha := S.ha
  refine wpAny_call ?_
  refine enter (binds := [(Str.ofString "a", .int a t), (Str.ofString "b", .int b u)]) X' T'.nolimit (by k_is) (by k_is) (by show dp < recursionLimit; omega) (BindsTo.of_eq rfl) (locs rfl) ?_ rfl rfl rfl (by decide)
  intro L h₁ F
  have N : News s.heap L h₁ [] := News.nil
  have e1 : (b == 0) = false := by simp; omega
  have e2 : decide (b < 0) = false := by simp; omega
  have e3 : decide (a < 0) = false := by simp; omega
  (try dsimp only)
  repeat' (first | ((with_reducible show (@ite Prop _ _ _ _)); first | refine iteT (by assumption) ?_ | refine iteF (by assumption) ?_) | ((with_reducible show wpAny _ _ (call (Value.ref _) _) _ _ _); (refine stop_of ?_)) | walk1 | (dsimp only; walk1) | fail "no step")
  refine ⟨?_⟩
  refine dmp_new B.X B.T (hs.trans F.keep) B.h30 B.h37 B.C1 B.C2 (by show dp + 1 + 110 < _; omega) (by show un + 3 + 110 < _; omega) (F.keep _ _ hP30) (F.keep _ _ hP37) S.ha S.hb S.hb2 S.hd S.hd0 S.hd2 ?_
  intro h' tk' r t1 t2 hx hfl hf hg
  exact hret _ _ _ _ _ (fun b o hb hb2 e => hx b o hb hb2 (F.keep b o e)) (hfl.mono F.keep) (Mine.Fr.fresh F hf).2 hg
end Mine
end PartF9

section PartF10
open PySem PySem.W PyProof.Rows PySem.Calls
namespace Mine
theorem offF10 : True := by w_top off; trivial
variable {prog : Program} {w : World} {dp un : Nat} {gd : Option (List Code)} {fr : Option (List Env)} {s : Shared} {p : Program} {loose : List Str} {mean : ExcName → Option Value} {mg mb : Str → Option Value} {h₀ : Heap} {Q : Value → Shared → Prop} {E : Value → Shared → Prop}
/-- the number written by the base, the base less 1, .. : rests r4 r3 r2 r1 and the last quotient n4 -/
structure Digs (B n0 n1 n2 n3 n4 r4 r3 r2 r1 : Int) : Prop where
  hB : 256 ≤ B ∧ B < 100000000000
  e0 : n0.fdiv B = n1 ∧ n0.fmod B = r4
  e1 : n1.fdiv (B - 1) = n2 ∧ n1.fmod (B - 1) = r3
  e2 : n2.fdiv (B - 2) = n3 ∧ n2.fmod (B - 2) = r2
  e3 : n3.fdiv (B - 3) = n4 ∧ n3.fmod (B - 3) = r1
  p0 : 0 < n0 ∧ n0 < 2 ^ 200
  p1 : 0 < n1 ∧ n1 < 2 ^ 200
  p2 : 0 < n2 ∧ n2 < 2 ^ 200
  p3 : 0 < n3 ∧ n3 < 2 ^ 200
theorem sizes_of {a b : Int} (h : 0 < a ∧ a < 2 ^ 200) (hb : 200 ≤ b) (hb2 : b < 100000000000) : ∃ d, Sizes a b d :=
  ⟨_, h.1, by omega, by omega, rfl, (size_le h.1 h.2 (by omega)).1, (size_le h.1 h.2 (by omega)).2⟩
section
variable {A : Around} {s : Shared} {b c : Int} {t u : Tok}
theorem mulm1 (e : c = -b) (h : Q (.int c s.toks) { s with toks := s.toks + 1 }) : wpAny (model prog w) A (binaryOp .Mult (.int (-1) t) (.int b u)) Q E s := by
  subst e
  have e : -b = (-1) * b := by omega
  rw [e] at h
  exact mul_int h (hm := IntMulOk.of_left (bits64 (by decide) (by decide)))
theorem mul1 (h : Q (.int b s.toks) { s with toks := s.toks + 1 }) : wpAny (model prog w) A (binaryOp .Mult (.int 1 t) (.int b u)) Q E s := by
  have e : b = 1 * b := by omega
  rw [e] at h
  exact mul_int h (hm := IntMulOk.of_left (bits64 (by decide) (by decide)))
end
def restsS : Option Stmt := nth 65 PySem.Challenge.pw_qu0053_01.main.body
def bodyR : List Stmt := forOf (nth 1 (bodyOf restsS))
theorem mulT {A : Around} {a b : Int} {t u : Tok} (h : a = 1 ∨ a = -1) (hq : Q (.int (a * b) s.toks) { s with toks := s.toks + 1 }) : wpAny (model prog w) A (binaryOp .Mult (.int a t) (.int b u)) Q E s :=
  mul_int hq (hm := IntMulOk.of_left (bits64 (by omega) (by omega)))
local macro_rules | `(tactic| k_all) => `(tactic| assumption)
set_option maxRecDepth 100000 in
set_option maxHeartbeats 8000000 in
set_option pp.deepTerms false in
set_option pp.deepTerms.threshold 8 in
theorem rests_turn {g : Heap} {L R I : Addr} {turn B n q r i : Int} {oI : Obj} {its : Array Value} {e : Nat} {nw : List (Addr × Obj)} {PP : List (Addr × Obj) → Prop} {m : Str → Option Value} {Q : Flow → Shared → Prop} {t1 t2 t3 t5 : Tok}
    (X : (KK w.params).In g) (T : Top p loose mean mg mb g) (F : Fr g L s.heap m) (N : News g L s.heap ((I, oI) :: (R, { cls := .type "list", data := .seq its e }) :: nw))
    (m1 : m (Str.ofString "number") = some (.int n t1)) (m2 : m (Str.ofString "base") = some (.int B t2)) (m3 : m (Str.ofString "turn") = some (.int turn t3)) (m4 : m (Str.ofString "rests") = some (.ref R)) (m5 : m (Str.ofString "less") = some (.int i t5))
    (ht : turn = 1 ∨ turn = -1) (hB : 0 < B - i ∧ B - i < 100000000000) (hv : its.size ≤ 10) (hIR : @Ne Nat I R)
    (hcall : ∀ h1 tk1 t u (R' : Value → Shared → Prop) E', Fr g L h1 m → News g L h1 ((I, oI) :: (R, { cls := .type "list", data := .seq its e }) :: nw) →
      (∀ h2 tk2 rr t1 t2 nw2, Fr g L h2 m → News g L h2 ((rr, tup2 (.int q t1) (.int (turn * r) t2)) :: (I, oI) :: (R, { cls := .type "list", data := .seq its e }) :: nw2) → PP nw2 → @Ne Nat rr I → @Ne Nat rr R → (∀ p ∈ nw2, p.1 ≠ R) → (∀ p ∈ nw2, p.1 ≠ I) →
        R' (.ref rr) { s with heap := h2, toks := tk2 }) →
      wpAny (model prog w) (AA dp un gd fr) (call (.ref 56) [.int (turn * n) t, .int (turn * (B - i)) u]) R' E' { s with heap := h1, toks := tk1 })
    (hret : ∀ h' tk' nw2 e' t1' tr tx, Fr g L h' (fun y => if y = Str.ofString "rest" then some (.int (turn * r) tr) else if y = Str.ofString "number" then some (.int q t1') else m y) → PP nw2 → (∀ p ∈ nw2, p.1 ≠ R) → (∀ p ∈ nw2, p.1 ≠ I) →
      News g L h' ((I, oI) :: (R, { cls := .type "list", data := .seq (its.push (.int (turn * (turn * r)) tx)) e' }) :: nw2) → Q .next { s with heap := h', toks := tk' }) :
    wpAny (model prog w) (AA dp un gd fr) (execs bodyR (envOf (Str.ofString "_law_rests") (scopeOf restsS) L 99 (Value.ref 98))) Q E s := by
  dsimp only [bodyR, restsS, forOf, nth, bodyOf, scopeOf, PySem.Challenge.pw_qu0053_01]
  repeat' (first | ((with_reducible show wpAny _ _ (binaryOp Operator.Mult (Value.int _ _) (Value.int _ _)) _ _ _); (k_dflt refine mulT (by assumption) ?_)) | ((with_reducible show wpAny _ _ (eval (PySem.Expr.Name _ _) _) _ _ _); (k_dflt (refine ld (by assumption) (by assumption) ?_))) | ((with_reducible show wpAny _ _ (call (Value.ref _) _) _ _ _); (refine stop_of ?_)) | walk1 | (dsimp only; walk1) | fail "no step")
  refine ⟨?_⟩
  rename Fr _ _ _ _ => F9
  rename News _ _ _ _ => N9
  refine hcall _ _ _ _ _ _ F9 N9 ?_
  intro h8 tk8 rr t1' t2' nw2 F8 N8 hpp ne1 ne2 hall hall2
  clear F9 N9
  (try dsimp only)
  repeat' (first | ((with_reducible show wpAny _ _ (binaryOp Operator.Mult (Value.int _ _) (Value.int _ _)) _ _ _); (k_dflt refine mulT (by assumption) ?_)) | ((with_reducible show wpAny _ _ (eval (PySem.Expr.Name _ _) _) _ _ _); (k_dflt (refine ld (by assumption) (by assumption) ?_))) | ((with_reducible show wpAny _ _ (call (Value.ref _) _) _ _ _); (refine stop_of ?_)) | walk1 | (dsimp only; walk1) | fail "no step")
  rename Fr _ _ _ _ => F9
  rename News _ _ _ _ => N9
  exact hret _ _ nw2 _ _ _ _ F9 hpp hall hall2 fun p hp => N9 p (.tail _ hp)
def nn (n0 n1 n2 n3 n4 : Int) (i : Nat) : Int := [n0, n1, n2, n3, n4].getD i 0
theorem ints4 {its : Array Value} {a b c d : Int} (h : IntsAre its.toList [a, b, c, d]) : ∃ t1 t2 t3 t4, its = #[.int a t1, .int b t2, .int c t3, .int d t4] := by
  obtain ⟨t1, v1, e1, h⟩ := h.cons_inv
  obtain ⟨t2, v2, e2, h⟩ := h.cons_inv
  obtain ⟨t3, v3, e3, h⟩ := h.cons_inv
  obtain ⟨t4, v4, e4, h⟩ := h.cons_inv
  have e5 := h.nil_inv
  subst e5 e4 e3 e2
  exact ⟨t1, t2, t3, t4, Array.toList_inj.mp e1⟩
theorem ints_take {its : Array Value} {ds : List Int} {i : Nat} {v : Int} {t : Tok} (h : IntsAre its.toList (ds.take i)) (hv : ds[i]? = some v) : IntsAre (its.push (.int v t)).toList (ds.take (i + 1)) := by
  rw [Array.toList_push, List.take_add_one, hv]
  exact h.append (.cons v t .nil)
inductive RestsJ (n0 n1 n2 n3 n4 r4 r3 r2 r1 turn B : Int) (P : Nat → List (Addr × Obj) → Prop) (R I : Addr) (i : Nat) (m : Str → Option Value) (nws : List (Addr × Obj)) : Prop
  | mk (e : Nat) (its : Array Value) (nw : List (Addr × Obj)) (t1 t2 t3 : Tok) : nws = (R, { cls := .type "list", data := .seq its e }) :: nw → P i nw → (∀ p ∈ nw, p.1 ≠ R) → (∀ p ∈ nw, p.1 ≠ I) → m (Str.ofString "number") = some (.int (nn n0 n1 n2 n3 n4 i) t1) →
    m (Str.ofString "base") = some (.int B t2) → m (Str.ofString "turn") = some (.int turn t3) → m (Str.ofString "rests") = some (.ref R) → its.size = i → IntsAre its.toList ([r4, r3, r2, r1].take i) → RestsJ n0 n1 n2 n3 n4 r4 r3 r2 r1 turn B P R I i m nws
set_option maxRecDepth 100000 in
set_option maxHeartbeats 8000000 in
set_option pp.deepTerms false in
set_option pp.deepTerms.threshold 8 in
theorem rests_any {g : Heap} {turn B n0 n1 n2 n3 n4 r4 r3 r2 r1 : Int} {news : List (Addr × Obj)} {P : Nat → List (Addr × Obj) → Prop} {t u v : Tok} (X : (KK w.params).In g) (T : Top p loose mean mg mb g)
    (hg : Ext g s.heap) (hsz : g.objs.size ≤ s.heap.objs.size) (N0 : ∀ p ∈ news, s.heap.get? p.1 = some p.2 ∧ g.get? p.1 = none) (P0 : P 0 news) (hroom : dp + 140 < recursionLimit) (hun : un + 140 < cLine)
    (ht : turn = 1 ∨ turn = -1) (hB : 256 ≤ B ∧ B < 100000000000)
    (hcall : ∀ i, i < 4 → ∀ L m R I oI its e nw h1 tk1 t u fr2 (R' : Value → Shared → Prop) E', P i nw → Fr g L h1 m → News g L h1 ((I, oI) :: (R, { cls := .type "list", data := .seq its e }) :: nw) → (∀ p ∈ nw, p.1 ≠ R) → (∀ p ∈ nw, p.1 ≠ I) →
      (∀ h2 tk2 rr t1 t2 nw2, Fr g L h2 m → News g L h2 ((rr, tup2 (.int (nn n0 n1 n2 n3 n4 (i + 1)) t1) (.int (turn * nn r4 r3 r2 r1 0 i) t2)) :: (I, oI) :: (R, { cls := .type "list", data := .seq its e }) :: nw2) → P (i + 1) nw2 →
        @Ne Nat rr I → @Ne Nat rr R → (∀ p ∈ nw2, p.1 ≠ R) → (∀ p ∈ nw2, p.1 ≠ I) → R' (.ref rr) { s with heap := h2, toks := tk2 }) →
      wpAny (model prog w) (AA (dp + 1) (un + 3) gd fr2) (call (.ref 56) [.int (turn * nn n0 n1 n2 n3 n4 i) t, .int (turn * (B - (0 + (i : Int)))) u]) R' E' { s with heap := h1, toks := tk1 })
    (hret : ∀ L h' tk' m r vs e nw all, Fr g L h' m → News g L h' ((r, lst vs e) :: all) → P 4 nw → (∀ p ∈ nw, p ∈ all) → (∀ p ∈ nw, @LT.lt Nat _ p.1 r) → IntsAre vs [r4, r3, r2, r1, n4] → Q (.ref r) { s with heap := h', toks := tk' }) :
    wpAny (model prog w) (AA dp un gd fr) (call (.ref 99) [.int n0 t, .int B u, .int turn v]) Q E s := by
  refine wpAny_call ?_
  refine enterF (g := g) (news := news) (binds := [(Str.ofString "number", .int n0 t), (Str.ofString "base", .int B u), (Str.ofString "turn", .int turn v)]) hg hsz N0
    T.nolimit (hg _ _ (X _ _ (by k_is))) rfl (codeRec_of (X.keeps hg) (by k_is)) (by show dp < recursionLimit; omega) (BindsTo.of_eq rfl) (locs rfl) ?_ rfl rfl rfl (by decide)
  intro L h₁ F N hl hL hext
  show wpAny _ ((AA dp un gd fr).deeper (envOf (Str.ofString "_law_rests") _ L 99 (Value.ref 98))) (execs _ (envOf (Str.ofString "_law_rests") _ L 99 (Value.ref 98))) _ _ _
  (try dsimp only)
  repeat' (first | ((with_reducible show RangeRest _ _ _ _ _ _ _ _ _ _ _ _ _ _ _ _ _); (refine stop_of ?_)) | ((with_reducible show wpAny _ _ (binaryOp Operator.Mult (Value.int _ _) (Value.int _ _)) _ _ _); (k_dflt refine mulT (by assumption) ?_)) | ((with_reducible show wpAny _ _ (eval (PySem.Expr.Name _ _) _) _ _ _); (k_dflt (refine ld (by assumption) (by assumption) ?_))) | ((with_reducible show wpAny _ _ (call (Value.ref _) _) _ _ _); (refine stop_of ?_)) | walk1 | (dsimp only; walk1) | fail "no step")
  rename Fr _ _ _ _ => F9
  rename News _ _ _ _ => N9
  rename_i R h2 lR h3 h4 tk4 u1 u2 u3 a1 a2 I lI
  have hoff : ∀ p ∈ news, p.1 ≠ R := fun p hp => Nat.ne_of_lt (lR p hp)
  have hoffI : ∀ p ∈ news, p.1 ≠ I := fun p hp => Nat.ne_of_lt (Nat.lt_trans (lR p hp) lI.1)
  have hIR : @Ne Nat I R := Nat.ne_of_gt lI.1
  refine ⟨rr_ind (n := 4) (RestsJ n0 n1 n2 n3 n4 r4 r3 r2 r1 turn B P R I) ?zero ?succ 4 0 _ _ rfl
    ⟨_, _, news, _, _, _, rfl, P0, hoff, hoffI, rfl, rfl, rfl, rfl, rfl, .nil⟩⟩
  case succ =>
    clear F9 N9 hret P0 hoff hoffI
    rintro i m nws hi ⟨e, its, nw, t1, t2, t3, rfl, hP, o1, o2, m1, m2, m3, m4, hsz, hints⟩ t5 h5 tk5 it hit F5 N5
    have up : ∀ {x : Str} {v : Value}, x ≠ Str.ofString "less" → m x = some v → (fun y => if y = Str.ofString "less" then some (.int (0 + (i : Int)) t5) else m y) x = some v := fun hx e => by
      show (if _ then _ else _) = _; rw [if_neg hx]; exact e
    refine rests_turn (B := B) (n := nn n0 n1 n2 n3 n4 i) (q := nn n0 n1 n2 n3 n4 (i + 1)) (r := nn r4 r3 r2 r1 0 i) (i := 0 + (i : Int)) (PP := P (i + 1)) X T F5 N5 (up (by decide) m1) (up (by decide) m2) (up (by decide) m3) (up (by decide) m4) (by show (if _ then _ else _) = _; rw [if_pos rfl])
      ht (by omega) (by omega) hIR ?_ ?_
    · intro h6 tk6 t6 u6 R6 E6 F6 N6 hk
      exact hcall i hi L _ R I it its e nw h6 tk6 t6 u6 _ R6 E6 hP F6 N6 o1 o2 hk
    · intro h6 tk6 nw6 e6 t6 t7 t8 F6 hP6 o6 o7 N6
      have e9 : turn * (turn * nn r4 r3 r2 r1 0 i) = nn r4 r3 r2 r1 0 i := by rcases ht with rfl | rfl <;> omega
      rw [e9] at N6
      have g : ∀ {x : Str} {v : Value}, x ≠ Str.ofString "rest" → x ≠ Str.ofString "number" → x ≠ Str.ofString "less" → m x = some v → (if x = Str.ofString "rest" then some (.int (turn * nn r4 r3 r2 r1 0 i) t7) else if x = Str.ofString "number" then some (.int (nn n0 n1 n2 n3 n4 (i + 1)) t6) else
        if x = Str.ofString "less" then some (.int (0 + (i : Int)) t5) else m x) = some v := fun h1 h2 h3 e => by rw [if_neg h1, if_neg h2, if_neg h3]; exact e
      refine ⟨_, _, _, _, rfl, F6, N6, ?_, _, _, nw6, _, _, _, rfl, hP6, o6, o7, rfl, g (by decide) (by decide) (by decide) m2, g (by decide) (by decide) (by decide) m3, g (by decide) (by decide) (by decide) m4, by rw [Array.size_push, hsz], ?_⟩
      · intro p hp
        rcases List.mem_cons.mp hp with rfl | hp
        · exact fun q => hIR q.symm
        · exact o7 p hp
      · refine ints_take hints ?_
        match i, hi with
        | 0, _ => rfl
        | 1, _ => rfl
        | 2, _ => rfl
        | 3, _ => rfl
  case zero =>
    clear F9 N9 hcall
    rintro m nws ⟨e, its, nw, t1, t2, t3, rfl, hP, o1, o2, m1, m2, m3, m4, hsz, hints⟩ h5 tk5 F5 N5
    obtain ⟨z1, z2, z3, z4, rfl⟩ := ints4 hints
    (try dsimp only)
    repeat' (first | ((with_reducible show RangeRest _ _ _ _ _ _ _ _ _ _ _ _ _ _ _ _ _); (refine stop_of ?_)) | ((with_reducible show wpAny _ _ (binaryOp Operator.Mult (Value.int _ _) (Value.int _ _)) _ _ _); (k_dflt refine mulT (by assumption) ?_)) | ((with_reducible show wpAny _ _ (eval (PySem.Expr.Name _ _) _) _ _ _); (k_dflt (refine ld (by assumption) (by assumption) ?_))) | ((with_reducible show wpAny _ _ (call (Value.ref _) _) _ _ _); (refine stop_of ?_)) | walk1 | (dsimp only; walk1) | fail "no step")
    rename Fr _ _ _ _ => F9
    rename News _ _ _ _ => N9
    rename _ ∧ _ ∧ AllLt _ nw => lD
    exact hret _ _ _ _ _ _ _ nw _ F9 N9 hP (fun p hp => .tail _ (.tail _ hp)) (lt_all lD.2.2) (.cons _ _ (.cons _ _ (.cons _ _ (.cons _ _ (.cons _ _ .nil)))))
theorem digs_at {B n0 n1 n2 n3 n4 r4 r3 r2 r1 : Int} (S : Digs B n0 n1 n2 n3 n4 r4 r3 r2 r1) : ∀ i, i < 4 →
    (∃ d, Sizes (nn n0 n1 n2 n3 n4 i) (B - (0 + (i : Int))) d) ∧ (nn n0 n1 n2 n3 n4 i).fdiv (B - (0 + (i : Int))) = nn n0 n1 n2 n3 n4 (i + 1) ∧ (nn n0 n1 n2 n3 n4 i).fmod (B - (0 + (i : Int))) = nn r4 r3 r2 r1 0 i := by
  have hB := S.hB
  intro i hi
  match i, hi with
  | 0, _ => exact ⟨sizes_of S.p0 (by omega) (by omega), by rw [show B - (0 + ((0 : Nat) : Int)) = B by omega]; exact S.e0⟩
  | 1, _ => exact ⟨sizes_of S.p1 (by omega) (by omega), by rw [show B - (0 + ((1 : Nat) : Int)) = B - 1 by omega]; exact S.e1⟩
  | 2, _ => exact ⟨sizes_of S.p2 (by omega) (by omega), by rw [show B - (0 + ((2 : Nat) : Int)) = B - 2 by omega]; exact S.e2⟩
  | 3, _ => exact ⟨sizes_of S.p3 (by omega) (by omega), by rw [show B - (0 + ((3 : Nat) : Int)) = B - 3 by omega]; exact S.e3⟩
theorem rests_neg {B n0 n1 n2 n3 n4 r4 r3 r2 r1 : Int} {t u v : Tok} (K : Base w p loose mean mg mb h₀) (hs : Ext h₀ s.heap) (hroom : dp + 140 < recursionLimit) (hun : un + 140 < cLine) (hP : Filled s.heap) (S : Digs B n0 n1 n2 n3 n4 r4 r3 r2 r1)
    (hret : ∀ h' tk' r vs e, Ext s.heap h' → s.heap.get? r = none → h'.get? r = some (lst vs e) → IntsAre vs [r4, r3, r2, r1, n4] → Q (.ref r) { s with heap := h', toks := tk' }) :
    wpAny (model prog w) (AA dp un gd fr) (call (.ref 99) [.int n0 t, .int B u, .int (-1) v]) Q E s := by
  refine rests_any (n1 := n1) (n2 := n2) (n3 := n3) (n4 := n4) (r4 := r4) (r3 := r3) (r2 := r2) (r1 := r1) (news := []) (P := fun _ _ => True) (K.X.keeps hs) (K.T.keeps hs) (Ext.refl _) (Nat.le_refl _) (fun _ h => nomatch h) trivial hroom hun (.inr rfl) S.hB ?_ ?_
  · intro i hi L m R I oI its e nw h1 tk1 t u fr2 R' E' _ F N o1 o2 hk
    obtain ⟨⟨d, z⟩, e1, e2⟩ := digs_at S i hi
    refine idm_neg_hit (s := { s with heap := h1, toks := tk1 }) K (hs.trans F.keep) (by omega) (by omega) (hP.keeps F.keep) z (Int.neg_one_mul _) (Int.neg_one_mul _) ?_
    intro h8 tk8 rr t1 t2 hx hf hg
    have hne := ne_all N hf
    rw [e1, e2, ← Int.neg_one_mul] at hg
    exact hk h8 tk8 rr t1 t2 nw (Ext.fr hx F) (Mine.News.one hg (Mine.Fr.fresh F hf) (Ext.news hx N)) trivial (hne _ (.head _)) (hne _ (.tail _ (.head _))) o1 o2
  · intro L h' tk' m r vs e nw all F N _ _ _ hi
    exact hret h' tk' r vs e F.keep (N _ (.head _)).2.2 (N _ (.head _)).1 hi
end Mine
end PartF10

section PartF11
open PySem PySem.W PyProof.Rows PySem.Calls
namespace Mine
variable {prog : Program} {w : World} {dp un : Nat} {gd : Option (List Code)} {fr : Option (List Env)} {s : Shared} {p : Program} {loose : List Str} {mean : ExcName → Option Value} {mg mb : Str → Option Value} {h₀ : Heap} {Q : Value → Shared → Prop} {E : Value → Shared → Prop}
theorem Fr.but2 {g h h' : Heap} {L : Addr} {m : Str → Option Value} (F : Fr g L h m) (h30 : g.get? 30 = none) (h37 : g.get? 37 = none) (hL1 : L ≠ 30) (hL2 : L ≠ 37) (k : ∀ b o, b ≠ 30 → b ≠ 37 → h.get? b = some o → h'.get? b = some o) : Fr g L h' m :=
  ⟨F.ns.at' fun o e => k _ o hL1 hL2 e, fun b o e => k b o (fun q => by rw [q, h30] at e; cases e) (fun q => by rw [q, h37] at e; cases e) (F.keep b o e), F.above⟩
theorem News.takeN {g h : Heap} {L : Addr} {news : List (Addr × Obj)} (N : News g L h news) (k : Nat) : News g L h (news.take k) := fun p hp => N p (List.mem_of_mem_take hp)
theorem News.keep2 {g h h' : Heap} {L : Addr} {news : List (Addr × Obj)} (N : News g L h news) (k : ∀ b o, b ≠ 30 → b ≠ 37 → h.get? b = some o → h'.get? b = some o) (h1 : ∀ p ∈ news, p.1 ≠ 30) (h2 : ∀ p ∈ news, p.1 ≠ 37) : News g L h' news :=
  fun p hp => ⟨k _ _ (h1 p hp) (h2 p hp) (N p hp).1, (N p hp).2⟩
/-- the tables stand filled in the ledger -/
def FilledL (nw : List (Addr × Obj)) : Prop :=
  (∃ c oc cs t, (30, tabObj #[rawInt 32, rawInt 4, .ref c]) ∈ nw ∧ c ≠ 30 ∧ c ≠ 37 ∧ (c, oc) ∈ nw ∧ oc.data = .fields cs ∧ cs[1]? = some (.str q1 t)) ∧
  ∃ c oc cs t, (37, tabObj #[rawInt 47, rawInt 4, .ref c]) ∈ nw ∧ c ≠ 30 ∧ c ≠ 37 ∧ (c, oc) ∈ nw ∧ oc.data = .fields cs ∧ cs[1]? = some (.str q2 t)
theorem FilledL.at {g h : Heap} {L : Addr} {nw : List (Addr × Obj)} (x : FilledL nw) (N : News g L h nw) : Filled h := by
  obtain ⟨⟨c1, oc1, cs1, tc1, a1, a2, a3, a4, a5, a6⟩, ⟨c2, oc2, cs2, tc2, b1, b2, b3, b4, b5, b6⟩⟩ := x
  exact ⟨⟨c1, N.get a1, a2, a3, c1, oc1, cs1, tc1, rfl, N.get a4, a5, a6⟩, ⟨c2, N.get b1, b2, b3, c2, oc2, cs2, tc2, rfl, N.get b4, b5, b6⟩⟩
def tabsP (i : Nat) (nw : List (Addr × Obj)) : Prop := match i with
  | 0 => nw = [(30, tabObj #[]), (37, tabObj #[])]
  | _ => FilledL nw
theorem rests_new {B n0 n1 n2 n3 n4 r4 r3 r2 r1 : Int} {t u v : Tok} (K : Base w p loose mean mg mb h₀) (hs : Ext h₀ s.heap) (hroom : dp + 140 < recursionLimit) (hun : un + 140 < cLine) (hP30 : s.heap.get? 30 = some (tabObj #[])) (hP37 : s.heap.get? 37 = some (tabObj #[])) (S : Digs B n0 n1 n2 n3 n4 r4 r3 r2 r1)
    (hret : ∀ h' tk' r vs e, (∀ b o, b ≠ 30 → b ≠ 37 → s.heap.get? b = some o → h'.get? b = some o) → Filled h' → s.heap.get? r = none → h'.get? r = some (lst vs e) → IntsAre vs [r4, r3, r2, r1, n4] → Q (.ref r) { s with heap := h', toks := tk' }) :
    wpAny (model prog w) (AA dp un gd fr) (call (.ref 99) [.int n0 t, .int B u, .int 1 v]) Q E s := by
  have hg0 : Ext h₀ (hideAll s.heap [30, 37]) := ext_hide hs (by simp [K.h30, K.h37])
  have hg30 : (hideAll s.heap [30, 37]).get? 30 = none := hideAll_none _ (.head _)
  have hg37 : (hideAll s.heap [30, 37]).get? 37 = none := hideAll_none _ (.tail _ (.head _))
  have hgs : ∀ b o, b ≠ 30 → b ≠ 37 → s.heap.get? b = some o → (hideAll s.heap [30, 37]).get? b = some o := fun b o hb hb2 e => hideAll_get _ e (by simp [hb, hb2])
  have hx1 := hide_ext s.heap [30, 37]
  have hx2 : (hideAll s.heap [30, 37]).objs.size ≤ s.heap.objs.size := Nat.le_of_eq (hideAll_size _ _)
  generalize hideAll s.heap [30, 37] = g at *
  refine rests_any (g := g) (n1 := n1) (n2 := n2) (n3 := n3) (n4 := n4) (r4 := r4) (r3 := r3) (r2 := r2) (r1 := r1) (news := [(30, tabObj #[]), (37, tabObj #[])]) (P := tabsP) (K.X.keeps hg0) (K.T.keeps hg0) hx1 hx2
    (by intro p hp; simp only [List.mem_cons, List.not_mem_nil, or_false] at hp; rcases hp with rfl | rfl; exact ⟨hP30, hg30⟩; exact ⟨hP37, hg37⟩) rfl hroom hun (.inl rfl) S.hB ?_ ?_
  · intro i hi L m R I oI its e nw h1 tk1 t u fr2 R' E' hp F N o1 o2 hk
    obtain ⟨⟨d, z⟩, e1, e2⟩ := digs_at S i hi
    rw [Int.one_mul, Int.one_mul]
    rw [Int.one_mul] at hk
    cases i with
    | zero =>
      have hp : nw = [(30, tabObj #[]), (37, tabObj #[])] := hp
      subst hp
      refine idm_pos_new (s := { s with heap := h1, toks := tk1 }) K (hg0.trans F.keep) (by omega) (by omega) (N.get (.tail _ (.tail _ (.head _)))) (N.get (.tail _ (.tail _ (.tail _ (.head _))))) z ?_
      intro h8 tk8 rr t1 t2 hx hnt hf hg
      rw [e1, e2] at hg
      obtain ⟨⟨c1, oc1, cs1, tc1, a1, a2, a3, a4, a5, a6, a7⟩, ⟨c2, oc2, cs2, tc2, b1, b2, b3, b4, b5, b6, b7⟩⟩ := hnt
      have F8 := Mine.Fr.but2 F hg30 hg37 (N _ (.tail _ (.tail _ (.head _)))).2.1.symm (N _ (.tail _ (.tail _ (.tail _ (.head _))))).2.1.symm hx
      have r30 := o1 _ (.head _)
      have r37 := o1 _ (.tail _ (.head _))
      have i30 := o2 _ (.head _)
      have i37 := o2 _ (.tail _ (.head _))
      have hne := ne_all N hf
      have hn1 := ne_all N a4
      have hn2 := ne_all N b4
      refine hk h8 tk8 rr t1 t2 [(c1, oc1), (c2, oc2), (30, tabObj #[rawInt 32, rawInt 4, .ref c1]), (37, tabObj #[rawInt 47, rawInt 4, .ref c2])] F8 ?_ ?_ (hne _ (.head _)) (hne _ (.tail _ (.head _))) ?_ ?_
      · exact Mine.News.one hg (Mine.Fr.fresh F hf) (Mine.News.one (hx _ _ i30.symm i37.symm (N.get (.head _))) (N _ (.head _)).2 (Mine.News.one (hx _ _ r30.symm r37.symm (N.get (.tail _ (.head _)))) (N _ (.tail _ (.head _))).2
          (Mine.News.one a5 (Mine.Fr.fresh F a4) (Mine.News.one b5 (Mine.Fr.fresh F b4) (Mine.News.one a1 (N _ (.tail _ (.tail _ (.head _)))).2 (Mine.News.one b1 (N _ (.tail _ (.tail _ (.tail _ (.head _))))).2 News.nil))))))
      · exact ⟨⟨c1, oc1, cs1, tc1, by k_mem, a2, a3, by k_mem, a6, a7⟩, ⟨c2, oc2, cs2, tc2, by k_mem, b2, b3, by k_mem, b6, b7⟩⟩
      · simp only [List.forall_mem_cons]
        exact ⟨hn1 _ (.tail _ (.head _)), hn2 _ (.tail _ (.head _)), r30, r37, fun _ h => nomatch h⟩
      · simp only [List.forall_mem_cons]
        exact ⟨hn1 _ (.head _), hn2 _ (.head _), i30, i37, fun _ h => nomatch h⟩
    | succ i =>
      refine idm_pos_hit (s := { s with heap := h1, toks := tk1 }) K (hg0.trans F.keep) (by omega) (by omega) (FilledL.at hp (L := L) (g := g) fun p h => N p (.tail _ (.tail _ h))) z ?_
      intro h8 tk8 rr t1 t2 hx hf hg
      have hne := ne_all N hf
      rw [e1, e2] at hg
      exact hk h8 tk8 rr t1 t2 nw (Ext.fr hx F) (Mine.News.one hg (Mine.Fr.fresh F hf) (Ext.news hx N)) hp (hne _ (.head _)) (hne _ (.tail _ (.head _))) o1 o2
  · intro L h' tk' m r vs e nw all F N hp hall hlt hi
    have hp : FilledL nw := hp
    refine hret h' tk' r vs e (fun b o hb hb2 q => F.keep b o (hgs b o hb hb2 q)) (hp.at (L := L) (g := g) fun p h => N p (.tail _ (hall p h))) ?_ (N _ (.head _)).1 hi
    obtain ⟨⟨c1, oc1, cs1, tc1, a1, _⟩, ⟨c2, oc2, cs2, tc2, b1, _⟩⟩ := hp
    cases q : s.heap.get? r with
    | none => rfl
    | some o =>
      have := hgs r o (Nat.ne_of_gt (hlt _ a1)) (Nat.ne_of_gt (hlt _ b1)) q
      rw [(N _ (.head _)).2.2] at this; cases this
end Mine
end PartF11

section PartC0
open PySem PySem.W PyProof.Rows PySem.Calls
namespace Mine
/-- two lists, item by item -/
inductive All2 {α β : Type} (R : α → β → Prop) : List α → List β → Prop
  | nil : All2 R [] []
  | cons {a b as bs} : R a b → All2 R as bs → All2 R (a :: as) (b :: bs)
theorem All2.mono {α β : Type} {R S : α → β → Prop} {as : List α} {bs : List β} (h : All2 R as bs) (k : ∀ a b, a ∈ as → R a b → S a b) : All2 S as bs := by
  induction h with
  | nil => exact .nil
  | cons x _ ih => exact .cons (k _ _ (.head _) x) (ih fun a b ha => k a b (.tail _ ha))
theorem All2.length {α β : Type} {R : α → β → Prop} {as : List α} {bs : List β} (h : All2 R as bs) : as.length = bs.length := by
  induction h with
  | nil => rfl
  | cons _ _ ih => simp [ih]
theorem All2.snoc {α β : Type} {R : α → β → Prop} {as : List α} {bs : List β} {a : α} {b : β} (h : All2 R as bs) (x : R a b) : All2 R (as ++ [a]) (bs ++ [b]) := by
  induction h with
  | nil => exact .cons x .nil
  | cons y _ ih => exact .cons y ih
theorem All2.app {α β : Type} {R : α → β → Prop} {as cs : List α} {bs ds : List β} (h : All2 R as bs) (k : All2 R cs ds) : All2 R (as ++ cs) (bs ++ ds) := by
  induction h with
  | nil => exact k
  | cons y _ ih => exact .cons y ih
theorem All2.get {α β : Type} {R : α → β → Prop} {as : List α} {bs : List β} (h : All2 R as bs) : ∀ {i : Nat} {b : β}, bs[i]? = some b → ∃ a, as[i]? = some a ∧ R a b := by
  induction h with
  | nil => intro i b e; simp at e
  | cons y _ ih =>
    intro i b e
    cases i with
    | zero => simp at e; subst e; exact ⟨_, rfl, y⟩
    | succ i => simp only [List.getElem?_cons_succ] at e ⊢; exact ih e
theorem All2.ints {ks : List Int} {vs : List Value} (h : All2 (fun k v => ∃ t, v = Value.int k t) ks vs) : IntsAre vs ks := by
  induction h with
  | nil => exact .nil
  | cons x _ ih => obtain ⟨t, rfl⟩ := x; exact .cons _ t ih
theorem All2.ofInts {ks : List Int} {vs : List Value} (h : IntsAre vs ks) : All2 (fun k v => ∃ t, v = Value.int k t) ks vs := by
  induction h with
  | nil => exact .nil
  | cons a t _ ih => exact .cons ⟨t, rfl⟩ ih
theorem All2.map1 {α γ β : Type} {f : α → γ} {R : γ → β → Prop} {as : List α} {bs : List β} (h : All2 (fun a b => R (f a) b) as bs) : All2 R (as.map f) bs := by
  induction h with
  | nil => exact .nil
  | cons x _ ih => exact .cons x ih

inductive EltR (g : Heap) (C : Addr) (m : Str → Option Value) (s : Shared) (nw : List (Addr × Obj)) (PP : Value → List (Addr × Obj) → Prop) (y : Value) (s' : Shared) : Prop
  | mk (h' : Heap) (tk' : Nat) (fresh : List (Addr × Obj)) : s' = { s with heap := h', toks := tk' } → Fr g C h' m → News g C h' (fresh ++ nw) → (∀ p ∈ fresh, ∀ q ∈ nw, p.1 ≠ q.1) → PP y fresh → EltR g C m s nw PP y s'
/-- what an element's eval leaves: the frame, the ledger and new objects ahead of it -/
def EltPost (g : Heap) (C : Addr) (m : Str → Option Value) (s : Shared) (nw : List (Addr × Obj)) (PP : Value → List (Addr × Obj) → Prop) (y : Value) (s' : Shared) : Prop :=
  Stop (EltR g C m s nw PP y s')

/-- the target's place: a local of the block's frame, or a cell -/
structure Box (prog : Program) (w : World) (A : Around) (g : Heap) (C : Addr) (cenv : Env) (x : Str) (Own : Option Value → List (Addr × Obj) → (Str → Option Value) → Prop) : Prop where
  put : ∀ px v (s' : Shared) m own nw (Q : Unit → Shared → Prop) E o0, Own o0 own m → Fr g C s'.heap m → News g C s'.heap (own ++ nw) → (∀ p ∈ own, ∀ q ∈ nw, p.1 ≠ q.1) →
    (∀ h' tk m' own', (∀ p ∈ own', ∀ q ∈ nw, p.1 ≠ q.1) → Own (some v) own' m' → Fr g C h' m' → News g C h' (own' ++ nw) → Q () { s' with heap := h', toks := tk }) →
    wpAny (model prog w) A (assign (.Name x px) cenv v) Q E s'
section
variable {prog : Program} {w : World} {A : Around}
theorem Box.local {g : Heap} {C : Addr} {cenv : Env} {x : Str} (hC : cenv.locals = C) (hk : cenv.scope.kind = .function) (hx : cenv.kindOf x = some .local) :
    Box prog w A g C cenv x (fun o own m => own = [] ∧ ∀ v, o = some v → m x = some v) := by
  subst hC
  refine ⟨fun px v s' m own nw Q E o0 ho F N off h => ?_⟩
  obtain ⟨rfl, _⟩ := ho
  refine wpAny_assign_Name (wpAny_storeName_local hx F.ns (fun h' hn hs => ?_) (by simp [hk]))
  exact h h' _ _ [] (fun p hp => nomatch hp) ⟨rfl, fun v' e => by cases e; simp⟩ (F.set hn hs) (N.set hs)
theorem Box.cell {g : Heap} {C c : Addr} {cenv : Env} {x : Str} (hk : cenv.scope.kind = .function) (hx : cenv.kindOf x = some .cell) (hc : cenv.cells.lookup x = some c) :
    Box prog w A g C cenv x (fun o own _ => ∃ oc, own = [(c, oc)] ∧ oc.data = .cell o) := by
  refine ⟨fun px v s' m own nw Q E o0 ho F N off h => ?_⟩
  obtain ⟨oc, rfl, hd⟩ := ho
  have hm := N (c, oc) (.head _)
  refine wpAny_assign_Name (wpAny_storeName_cell hk hx hc ⟨oc, hm.1, hd⟩ fun h' hv hs => ?_)
  obtain ⟨oc', ho', hd'⟩ := hv
  refine h h' _ m [(c, oc')] ?_ ⟨oc', rfl, hd'⟩ (F.change hs hm.2.1 hm.2.2) ?_
  · intro p hp q hq
    have := off (c, oc) (.head _) q hq
    rw [List.mem_singleton.mp hp]; exact this
  · intro p hp
    rcases List.mem_append.mp hp with hp | hp
    · rw [List.mem_singleton.mp hp]; exact ⟨ho', hm.2⟩
    · have z := N p (List.mem_append_right _ hp)
      exact ⟨hs.extBut _ _ (fun q => off (c, oc) (.head _) p hp q.symm) z.1, z.2⟩

inductive InvC {α : Type} (s : Shared) (n : Nat) (St : Nat → Heap → Prop) (Own : Option Value → List (Addr × Obj) → (Str → Option Value) → Prop) (g : Heap) (C I D : Addr) (PP : α → Value → List (Addr × Obj) → Prop) (ds : List α) (k : Nat) (s' : Shared) : Prop
  | mk (h' : Heap) (tk i : Nat) (ys : List Value) (m' : Str → Option Value) (own' : List (Addr × Obj)) (oI : Obj) (nw : List (Addr × Obj)) (o0 : Option Value) : s' = { s with heap := h', toks := tk } → i ≤ n → k = n + 1 - i → ys.length = i → St i h' → Own o0 own' m' → Fr g C h' m' →
      News g C h' (own' ++ (I, oI) :: (D, LCg.lst ys) :: nw) → (∀ p ∈ own', ∀ q ∈ (I, oI) :: (D, LCg.lst ys) :: nw, p.1 ≠ q.1) → (∀ p ∈ nw, p.1 ≠ I ∧ p.1 ≠ D) → All2 (fun d y => PP d y nw) (ds.take i) ys → InvC s n St Own g C I D PP ds k s'
theorem comp_core {α : Type} {elt iter : Expr} {x : Str} {px : Pos} {scope : Scope} {pos : Pos} {I D C : Addr} {cenv : Env} {g : Heap} {n : Nat} {P : Nat → Value → Prop} {St : Nat → Heap → Prop} {fp : List Addr}
    {Own : Option Value → List (Addr × Obj) → (Str → Option Value) → Prop} {PP : α → Value → List (Addr × Obj) → Prop} {R : α → Value → Prop} {ds : List α} {s : Shared} {RR : Result → Shared → Prop} {m : Str → Option Value} {own : List (Addr × Obj)}
    (W : Walks prog w A I fp [I] n P St) (hfp : ∀ b ∈ fp, b = I ∨ ∃ o, g.get? b = some o) (hIo : ∀ i h, St i h → ∃ o, h.get? I = some o) (hsz : n ≤ sizeLine) (B : Box prog w A g C cenv x Own)
    (hds : ds.length = n) (hP : ∀ i v d, P i v → ds[i]? = some d → R d v) (mono : ∀ d y l l', PP d y l → (∀ p ∈ l, p ∈ l') → PP d y l')
    (hst : St 0 s.heap) (hown : Own none own m) (F : Fr g C s.heap m) {oI : Obj} (N : News g C s.heap (own ++ [(I, oI), (D, LCg.lst [])])) (hID : I ≠ D) (hoff : ∀ p ∈ own, p.1 ≠ I ∧ p.1 ≠ D)
    (turn : ∀ d v m' own' nw H tk E', d ∈ ds → R d v → Own (some v) own' m' → Fr g C H m' → News g C H (own' ++ nw) →
      wpAny (model prog w) A (eval elt cenv) (EltPost g C m' { s with heap := H, toks := tk } (own' ++ nw) (PP d)) E' { s with heap := H, toks := tk })
    (fin : ∀ h' tk ys nw m', Fr g C h' m' → News g C h' ((D, LCg.lst ys) :: nw) → (∀ p ∈ nw, p.1 ≠ D) → All2 (fun d y => PP d y nw) ds ys → RR (.ok .next) { s with heap := h', toks := tk }) :
    codeAny (model prog w) A (.compLoop (.ListComp elt [⟨.Name x px, iter, [], 0⟩] scope pos) 0 (.ref I) (.ref D) cenv) RR s := by
  refine codeAny_compLoop_list
    (fun k s' => InvC s n St Own g C I D PP ds k s') ?_ (n + 1)
    ⟨s.heap, s.toks, 0, [], m, own, oI, [], none, rfl, Nat.zero_le _, rfl, rfl, hst, hown, F, N, ?_, (fun p hp => nomatch hp), by simpa using All2.nil⟩
  · rintro k s' ⟨h', tk, i, ys, m', own', oI, nw, o0, rfl, hi, rfl, hyl, hst', hown', F', N', off', off2, hall⟩
    have zI := N' (I, oI) (List.mem_append_right _ (.head _))
    have hFr1 : ∀ {h₂ : Heap}, (∀ b o, b ∉ [I] → h'.get? b = some o → h₂.get? b = some o) → Fr g C h₂ m' := fun hk =>
      ⟨F'.ns.at' fun o e => hk C o (by simpa using Ne.symm zI.2.1) e, fun b o e => hk b o (fun q => by rw [List.mem_singleton.mp q, zI.2.2] at e; cases e) (F'.keep b o e), F'.above⟩
    by_cases hlt : i < n
    · refine W.item i _ _ _ hlt hst' fun v h₁ tk₁ hPv hst₁ hk₁ => ?_
      obtain ⟨oI', heI⟩ := hIo _ _ hst₁
      have F₁ := hFr1 hk₁
      have N₁ : News g C h₁ (own' ++ (I, oI') :: (D, LCg.lst ys) :: nw) := by
        intro p hp
        rcases List.mem_append.mp hp with hp | hp
        · have z := N' p (List.mem_append_left _ hp)
          exact ⟨hk₁ _ _ (by simpa using off' p hp _ (.head _)) z.1, z.2⟩
        · rcases List.mem_cons.mp hp with rfl | hp
          · exact ⟨heI, zI.2⟩
          · have z := N' p (List.mem_append_right _ (.tail _ hp))
            refine ⟨hk₁ _ _ ?_ z.1, z.2⟩
            rcases List.mem_cons.mp hp with rfl | hp
            · simpa using Ne.symm hID
            · simpa using (off2 p hp).1
      have off1 : ∀ p ∈ own', ∀ q ∈ (I, oI') :: (D, LCg.lst ys) :: nw, p.1 ≠ q.1 := by
        intro p hp q hq
        rcases List.mem_cons.mp hq with rfl | hq
        · exact off' p hp (I, oI) (.head _)
        · exact off' p hp q (.tail _ hq)
      refine B.put px v _ m' own' ((I, oI') :: (D, LCg.lst ys) :: nw) _ _ o0 hown' F₁ N₁ off1 fun h₂ tk₂ m₂ own₂ off₂ hown₂ F₂ N₂ => ?_
      obtain ⟨d, hd⟩ : ∃ d, ds[i]? = some d := ⟨ds[i]'(by omega), by simp [hds, hlt]⟩
      have hst₂ : St (i + 1) h₂ := W.frame _ _ _ hst₁ fun b hb o e => by
        rcases hfp b hb with rfl | ⟨o', hg⟩
        · rw [heI] at e; cases e; exact (N₂ (b, oI') (List.mem_append_right _ (.head _))).1
        · rw [F₁.keep _ _ hg] at e; cases e; exact F₂.keep _ _ hg
      refine wpAny_mono (turn d v m₂ own₂ _ h₂ _ _ (List.mem_of_getElem? hd) (hP i v d hPv hd) hown₂ F₂ N₂) (fun y s₃ q => ?_) fun _ _ e => e
      obtain ⟨h₃, tk₃, fresh, rfl, F₃, N₃, off₃, hpp⟩ := q.out
      have zD := N₃ (D, LCg.lst ys) (List.mem_append_right _ (List.mem_append_right _ (.tail _ (.head _))))
      refine append_at (hsz := by show ys.toArray.size ≤ sizeLine; rw [List.size_toArray, hyl]; exact Nat.le_trans hi hsz) zD.1 fun h₄ hs₄ hD₄ => ?_
      have F₄ := F₃.change hs₄ zD.2.1 zD.2.2
      have offf : ∀ p ∈ fresh, p.1 ≠ I ∧ p.1 ≠ D := fun p hp => ⟨off₃ p hp (I, oI') (List.mem_append_right _ (.head _)), off₃ p hp (D, LCg.lst ys) (List.mem_append_right _ (.tail _ (.head _)))⟩
      have hst₄ : St (i + 1) h₄ := W.frame _ _ _ hst₂ fun b hb o e => by
        rcases hfp b hb with rfl | ⟨o', hg⟩
        · have z := (N₂ (b, oI') (List.mem_append_right _ (.head _))).1
          rw [z] at e; cases e
          exact hs₄.extBut _ _ hID (N₃ (b, oI') (List.mem_append_right _ (List.mem_append_right _ (.head _)))).1
        · rw [F₂.keep _ _ hg] at e; cases e; exact F₄.keep _ _ hg
      refine ⟨n + 1 - (i + 1), by omega, h₄, tk₃, i + 1, ys ++ [y], m₂, own₂, oI', fresh ++ nw, some v, rfl, hlt, rfl, by simp [hyl], hst₄, hown₂, F₄, ?_, ?_, ?_, ?_⟩
      · intro p hp
        rcases List.mem_append.mp hp with hp | hp
        · have z := N₃ p (List.mem_append_right _ (List.mem_append_left _ hp))
          exact ⟨hs₄.extBut _ _ (off₂ p hp (D, LCg.lst ys) (.tail _ (.head _))) z.1, z.2⟩
        · rcases List.mem_cons.mp hp with rfl | hp
          · have z := N₃ (I, oI') (List.mem_append_right _ (List.mem_append_right _ (.head _)))
            exact ⟨hs₄.extBut _ _ hID z.1, z.2⟩
          · rcases List.mem_cons.mp hp with rfl | hp
            · exact ⟨hD₄.trans (congrArg some (LCg.lst_snoc ys y)), zD.2⟩
            · rcases List.mem_append.mp hp with hp | hp
              · have z := N₃ p (List.mem_append_left _ hp)
                exact ⟨hs₄.extBut _ _ (offf p hp).2 z.1, z.2⟩
              · have z := N₃ p (List.mem_append_right _ (List.mem_append_right _ (.tail _ (.tail _ hp))))
                exact ⟨hs₄.extBut _ _ (off2 p hp).2 z.1, z.2⟩
      · intro p hp q hq
        rcases List.mem_cons.mp hq with rfl | hq
        · exact off₂ p hp (I, oI') (.head _)
        · rcases List.mem_cons.mp hq with rfl | hq
          · exact off₂ p hp (D, LCg.lst ys) (.tail _ (.head _))
          · rcases List.mem_append.mp hq with hq | hq
            · exact fun e => off₃ q hq p (List.mem_append_left _ hp) e.symm
            · exact off₂ p hp q (.tail _ (.tail _ hq))
      · intro p hp
        rcases List.mem_append.mp hp with hp | hp
        · exact offf p hp
        · exact off2 p hp
      · rw [List.take_add_one, hd]
        exact (hall.mono fun a b _ h => mono _ _ _ _ h fun p hp => List.mem_append_right _ hp).snoc (mono _ _ _ _ hpp fun p hp => List.mem_append_left _ hp)
    · obtain rfl : i = n := Nat.le_antisymm hi (Nat.not_lt.mp hlt)
      refine W.done _ _ _ hst' fun h₁ tk₁ hk₁ => ?_
      refine fin h₁ tk₁ ys nw m' (hFr1 hk₁) ?_ (fun p hp => (off2 p hp).2) ?_
      · intro p hp
        have z := N' p (List.mem_append_right _ (.tail _ hp))
        refine ⟨hk₁ _ _ ?_ z.1, z.2⟩
        rcases List.mem_cons.mp hp with rfl | hp
        · simpa using Ne.symm hID
        · simpa using (off2 p hp).1
      · rw [← hds, List.take_length] at hall; exact hall
  · intro p hp q hq
    have := hoff p hp
    rcases List.mem_cons.mp hq with rfl | hq
    · exact this.1
    · rw [List.mem_singleton.mp hq]; exact this.2
end
end Mine
end PartC0

section PartC1
open PySem PySem.W PyProof.Rows PySem.Calls
namespace Mine
section
variable {prog : Program} {w : World} {A : Around} {E : Value → Shared → Prop} {s : Shared}
theorem newEnvA {scope : Scope} {globals : Addr} {cl : List (Str × Addr)} {qual : Str} {env : Env} {Q : Env → Shared → Prop}
    (hQ : Q (newEnv scope s.heap.objs.size globals (cellsFrom (s.heap.objs.size + 1) scope.names cl) qual none .none (some env) builtinsNs) { s with heap := pushCells (s.heap.push { cls := .type "dict", data := .dict #[] }) scope.names }) :
    wpAny (model prog w) A (newFunctionEnv scope globals cl [] qual none .none (some env)) Q E s := by
  simp only [newFunctionEnv, Option.isSome_some, if_true]
  refine wpAny_bind (wpAny_alloc ?_)
  refine wpAny_bind (wpAny_layCells _ (fun name kind cells => by cases hkc : kind == NameKind.cell <;> simp [hkc]) _ _ _ _ ?_)
  rw [show ({ s with heap := s.heap.push { cls := .type "dict", data := .dict #[] } } : Shared).heap.objs.size = s.heap.objs.size + 1 from Heap.size_push ..]
  rw [List.forIn_nil]
  exact wpAny_bind (wpAny_pure (wpAny_pure hQ))

theorem mem_none {g : Heap} {a : Addr} (h : g.objs.size ≤ a) : g.get? a = none := Heap.get?_none_of_le h

theorem block_local {α : Type} {elt iter : Expr} {x : Str} {px : Pos} {scope : Scope} {cl : List (Str × Addr)} {pos : Pos} {env : Env} {I : Addr} {g : Heap} {n : Nat} {P : Nat → Value → Prop} {St : Nat → Heap → Prop} {fp : List Addr}
    {PP : α → Value → List (Addr × Obj) → Prop} {R : α → Value → Prop} {ds : List α} {RR : Value → Addr → Result → Shared → Prop}
    (W : Walks prog w A I fp [I] n P St) (hfp : ∀ b ∈ fp, b = I ∨ ∃ o, g.get? b = some o) (hIo : ∀ i h, St i h → ∃ o, h.get? I = some o) (hsz : n ≤ sizeLine)
    (hds : ds.length = n) (hP : ∀ i v d, P i v → ds[i]? = some d → R d v) (mono : ∀ d y l l', PP d y l → (∀ p ∈ l, p ∈ l') → PP d y l')
    (hst : St 0 s.heap) (hg : Ext g s.heap) (hgI : g.objs.size ≤ I)
    (ha1 : ∀ n, cellsFrom n scope.names cl = cl) (ha2 : ∀ h, pushCells h scope.names = h) (hkind : scope.kind = .function) (hx : scope.names.lookup x = some .local)
    (turn : ∀ d v C m' nw H tk E', d ∈ ds → R d v → m' x = some v → Fr g C H m' → News g C H nw →
      wpAny (model prog w) A (eval elt (compEnvC scope cl C env)) (EltPost g C m' { s with heap := H, toks := tk } nw (PP d)) E' { s with heap := H, toks := tk })
    (hRR : ∀ D C h' tk ys nw m', Fr g C h' m' → News g C h' ((D, LCg.lst ys) :: nw) → (∀ p ∈ nw, p.1 ≠ D) → All2 (fun d y => PP d y nw) ds ys → RR (.ref D) C (.ok .next) { s with heap := h', toks := tk }) :
    wpAny (model prog w) A (newList []) (fun acc s₃ => wpAny (model prog w) A (newFunctionEnv scope env.globals cl [] env.qual none .none (some env)) (fun cenv s₄ =>
      codeAny (model prog w) A (.compStart (.ListComp elt [⟨.Name x px, iter, [], 0⟩] scope pos) 0 (.ref I) acc { cenv with scope := relabel scope env }) (RR acc cenv.locals) s₄) E s₃) E s := by
  obtain ⟨oI, heI⟩ := hIo _ _ hst
  have hIlt : @LT.lt Nat instLTNat I s.heap.objs.size := Heap.lt_size heI
  refine wpAny_newObj_type (newEnvA ?_)
  dsimp only
  rw [ha2]
  generalize hH2 : s.heap.push { cls := .type "list", dict := none, data := .seq ([] : List Value).toArray } = H2
  have hC : H2.objs.size = s.heap.objs.size + 1 := by rw [← hH2, Heap.size_push]
  rw [ha1]
  have hnew : (H2.push { cls := .type "dict", data := .dict #[] }).Ns H2.objs.size (fun _ => none) := Heap.Ns.new H2 (.type "dict")
  have old : Ext s.heap (H2.push { cls := .type "dict", data := .dict #[] }) := fun b o e => Heap.get?_push_of_some _ (hH2 ▸ Heap.get?_push_of_some _ e)
  have hD : (H2.push { cls := .type "dict", data := .dict #[] }).get? s.heap.objs.size = some (LCg.lst []) := Heap.get?_push_of_some _ (hH2 ▸ Heap.get?_push_size _ rfl)
  have hst₁ : St 0 (H2.push { cls := .type "dict", data := .dict #[] }) := W.frame _ _ _ hst fun b _ o e => old b o e
  have hgl : @LE.le Nat instLENat g.objs.size I := hgI
  have F : Fr g H2.objs.size (H2.push { cls := .type "dict", data := .dict #[] }) (fun _ => none) := ⟨hnew, fun b o e => old b o (hg b o e), by show @LE.le Nat instLENat g.objs.size H2.objs.size; omega⟩
  have N : News g H2.objs.size (H2.push { cls := .type "dict", data := .dict #[] }) ([] ++ [(I, oI), (s.heap.objs.size, LCg.lst [])]) := by
    intro p hp
    rcases List.mem_cons.mp hp with rfl | hp
    · exact ⟨old _ _ heI, Nat.ne_of_lt (by show @LT.lt Nat instLTNat I H2.objs.size; omega), mem_none hgI⟩
    · rw [List.mem_singleton.mp hp]
      exact ⟨hD, Nat.ne_of_lt (by show @LT.lt Nat instLTNat s.heap.objs.size H2.objs.size; omega), mem_none (by show @LE.le Nat instLENat g.objs.size s.heap.objs.size; omega)⟩
  have loop : ∀ s₃ : Shared, s₃ = { s with heap := H2.push { cls := .type "dict", data := .dict #[] } } →
      codeAny (model prog w) A (.compLoop (.ListComp elt [⟨.Name x px, iter, [], 0⟩] scope pos) 0 (.ref I) (.ref s.heap.objs.size) (compEnvC scope cl H2.objs.size env)) (RR (.ref s.heap.objs.size) H2.objs.size) s₃ := by
    rintro s₃ rfl
    refine comp_core (Own := fun o own m => own = [] ∧ ∀ v, o = some v → m x = some v) (own := []) W hfp hIo hsz
      (Box.local rfl (by show scope.kind = _; exact hkind) (lookup_relabel_local hx)) hds hP mono hst₁ ⟨rfl, fun v e => by cases e⟩ F N (Nat.ne_of_lt hIlt) (fun p hp => nomatch hp) ?_ ?_
    · rintro d v m' own' nw H tk E' hd hR ⟨rfl, hm⟩ F' N'
      exact turn d v _ m' nw H tk E' hd hR (hm v rfl) F' N'
    · intro h' tk ys nw m' F' N' off hall
      exact hRR _ _ h' tk ys nw m' F' N' off hall
  exact codeAny_compStart_list (loop _ rfl) (W.self 0 _ _ _ hst₁ (loop _ rfl))

theorem block_cell {α : Type} {elt iter : Expr} {x : Str} {px : Pos} {scope : Scope} {cl : List (Str × Addr)} {pos : Pos} {env : Env} {I : Addr} {g : Heap} {n : Nat} {P : Nat → Value → Prop} {St : Nat → Heap → Prop} {fp : List Addr}
    {PP : α → Value → List (Addr × Obj) → Prop} {R : α → Value → Prop} {ds : List α} {RR : Value → Addr → Result → Shared → Prop}
    (W : Walks prog w A I fp [I] n P St) (hfp : ∀ b ∈ fp, b = I ∨ ∃ o, g.get? b = some o) (hIo : ∀ i h, St i h → ∃ o, h.get? I = some o) (hsz : n ≤ sizeLine)
    (hds : ds.length = n) (hP : ∀ i v d, P i v → ds[i]? = some d → R d v) (mono : ∀ d y l l', PP d y l → (∀ p ∈ l, p ∈ l') → PP d y l')
    (hst : St 0 s.heap) (hg : Ext g s.heap) (hgI : g.objs.size ≤ I)
    (ha1 : ∀ n, cellsFrom n scope.names cl = (x, n) :: cl) (ha2 : ∀ h, pushCells h scope.names = h.push { cls := .type "cell", data := .cell none }) (hkind : scope.kind = .function) (hx : ∀ C c, (compEnvC scope ((x, c) :: cl) C env).kindOf x = some .cell)
    (turn : ∀ d v C c oc m' nw H tk E', d ∈ ds → R d v → oc.data = .cell (some v) → Fr g C H m' → News g C H ((c, oc) :: nw) →
      wpAny (model prog w) A (eval elt (compEnvC scope ((x, c) :: cl) C env)) (EltPost g C m' { s with heap := H, toks := tk } ((c, oc) :: nw) (PP d)) E' { s with heap := H, toks := tk })
    (hRR : ∀ D C h' tk ys nw m', Fr g C h' m' → News g C h' ((D, LCg.lst ys) :: nw) → (∀ p ∈ nw, p.1 ≠ D) → All2 (fun d y => PP d y nw) ds ys → RR (.ref D) C (.ok .next) { s with heap := h', toks := tk }) :
    wpAny (model prog w) A (newList []) (fun acc s₃ => wpAny (model prog w) A (newFunctionEnv scope env.globals cl [] env.qual none .none (some env)) (fun cenv s₄ =>
      codeAny (model prog w) A (.compStart (.ListComp elt [⟨.Name x px, iter, [], 0⟩] scope pos) 0 (.ref I) acc { cenv with scope := relabel scope env }) (RR acc cenv.locals) s₄) E s₃) E s := by
  obtain ⟨oI, heI⟩ := hIo _ _ hst
  have hIlt : @LT.lt Nat instLTNat I s.heap.objs.size := Heap.lt_size heI
  refine wpAny_newObj_type (newEnvA ?_)
  dsimp only
  rw [ha2]
  generalize hH2 : s.heap.push { cls := .type "list", dict := none, data := .seq ([] : List Value).toArray } = H2
  have hC : H2.objs.size = s.heap.objs.size + 1 := by rw [← hH2, Heap.size_push]
  rw [ha1]
  generalize hH3 : H2.push { cls := .type "dict", data := .dict #[] } = H3
  have hC3 : H3.objs.size = H2.objs.size + 1 := by rw [← hH3, Heap.size_push]
  have hnew : (H3.push { cls := .type "cell", data := .cell none }).Ns H2.objs.size (fun _ => none) := (hH3 ▸ Heap.Ns.new H2 (.type "dict") : H3.Ns H2.objs.size _).keeps fun b o e => Heap.get?_push_of_some _ e
  have old : Ext s.heap (H3.push { cls := .type "cell", data := .cell none }) := fun b o e => Heap.get?_push_of_some _ (hH3 ▸ Heap.get?_push_of_some _ (hH2 ▸ Heap.get?_push_of_some _ e))
  have hD : (H3.push { cls := .type "cell", data := .cell none }).get? s.heap.objs.size = some (LCg.lst []) := Heap.get?_push_of_some _ (hH3 ▸ Heap.get?_push_of_some _ (hH2 ▸ Heap.get?_push_size _ rfl))
  have hc : (H3.push { cls := .type "cell", data := .cell none }).get? (H2.objs.size + 1) = some { cls := .type "cell", data := .cell none } := by rw [← hC3]; exact Heap.get?_push_size _ rfl
  generalize H3.push { cls := .type "cell", data := .cell none } = H4 at *
  have hst₁ : St 0 H4 := W.frame _ _ _ hst fun b _ o e => old b o e
  have hgl : @LE.le Nat instLENat g.objs.size I := hgI
  have F : Fr g H2.objs.size H4 (fun _ => none) := ⟨hnew, fun b o e => old b o (hg b o e), by show @LE.le Nat instLENat g.objs.size H2.objs.size; omega⟩
  have N : News g H2.objs.size H4 ([(H2.objs.size + 1, { cls := .type "cell", data := .cell none })] ++ [(I, oI), (s.heap.objs.size, LCg.lst [])]) := by
    intro p hp
    rcases List.mem_cons.mp hp with rfl | hp
    · exact ⟨hc, Nat.ne_of_gt (by show @LT.lt Nat instLTNat H2.objs.size (H2.objs.size + 1); omega), mem_none (by show @LE.le Nat instLENat g.objs.size (H2.objs.size + 1); omega)⟩
    · rcases List.mem_cons.mp hp with rfl | hp
      · exact ⟨old _ _ heI, Nat.ne_of_lt (by show @LT.lt Nat instLTNat I H2.objs.size; omega), mem_none hgI⟩
      · rw [List.mem_singleton.mp hp]
        exact ⟨hD, Nat.ne_of_lt (by show @LT.lt Nat instLTNat s.heap.objs.size H2.objs.size; omega), mem_none (by show @LE.le Nat instLENat g.objs.size s.heap.objs.size; omega)⟩
  have loop : ∀ s₃ : Shared, s₃ = { s with heap := H4 } →
      codeAny (model prog w) A (.compLoop (.ListComp elt [⟨.Name x px, iter, [], 0⟩] scope pos) 0 (.ref I) (.ref s.heap.objs.size) (compEnvC scope ((x, H2.objs.size + 1) :: cl) H2.objs.size env)) (RR (.ref s.heap.objs.size) H2.objs.size) s₃ := by
    rintro s₃ rfl
    refine comp_core (Own := fun o own _ => ∃ oc, own = [(H2.objs.size + 1, oc)] ∧ oc.data = .cell o) (own := [(H2.objs.size + 1, { cls := .type "cell", data := .cell none })]) W hfp hIo hsz
      (Box.cell (by show scope.kind = _; exact hkind) (hx _ _) (by simp [compEnvC])) hds hP mono hst₁ ⟨_, rfl, rfl⟩ F N (Nat.ne_of_lt hIlt) ?_ ?_ ?_
    · intro p hp
      rw [List.mem_singleton.mp hp]
      exact ⟨Nat.ne_of_gt (by show @LT.lt Nat instLTNat I (H2.objs.size + 1); omega), Nat.ne_of_gt (by show @LT.lt Nat instLTNat s.heap.objs.size (H2.objs.size + 1); omega)⟩
    · rintro d v m' own' nw H tk E' hd hR ⟨oc, rfl, hdata⟩ F' N'
      exact turn d v _ _ oc m' nw H tk E' hd hR hdata F' N'
    · intro h' tk ys nw m' F' N' off hall
      exact hRR _ _ h' tk ys nw m' F' N' off hall
  exact codeAny_compStart_list (loop _ rfl) (W.self 0 _ _ _ hst₁ (loop _ rfl))

/-- where the items come from: a list that stands, or a range -/
inductive Src {α : Type} (g : Heap) (R : α → Value → Prop) (ds : List α) : Value → Prop
  | list {ax : Addr} {its : List Value} (hl : g.IsList ax its.toArray) (hr : All2 R ds its) (hsz : its.length ≤ sizeLine) : Src g R ds (.ref ax)
  | range {r : Addr} {b : Int} {t u v : Tok} {n : Nat} (hr : IsRange g r 0 b 1 t u v) (hsm : Builtin.Range.small 0 b 1 = true) (hn : Builtin.Range.rangeSize 0 b 1 = ((n : Nat) : Int)) (hsz : n ≤ sizeLine)
      (hds : ds.length = n) (hP : ∀ (i : Nat) t d, ds[i]? = some d → R d (.int i t)) : Src g R ds (.ref r)

theorem src_iter {α : Type} {xv : Value} {R : α → Value → Prop} {ds : List α} {Q : Value → Shared → Prop} (hh : A.handled = none) (S : Src s.heap R ds xv)
    (h : ∀ (I : Addr) (s₂ : Shared) fp n P St, s₂.drawn = s.drawn → (∃ h', s₂ = { s with heap := h' }) → Walks prog w A I fp [I] n P St → (∀ b ∈ fp, b = I ∨ ∃ o, s.heap.get? b = some o) → (∀ i h, St i h → ∃ o, h.get? I = some o) → n ≤ sizeLine →
      ds.length = n → (∀ i v d, P i v → ds[i]? = some d → R d v) → St 0 s₂.heap → Ext s.heap s₂.heap → s.heap.objs.size ≤ I → Q (.ref I) s₂) :
    wpAny (model prog w) A (pyIter xv) Q E s := by
  cases S with
  | @list ax its hl hr hsz =>
    have hlt : @LT.lt Nat instLTNat ax s.heap.objs.size := by obtain ⟨_, e, _⟩ := hl; exact Heap.lt_size e
    refine wpAny_pyIter_list hl ?_
    refine h _ _ _ _ _ _ rfl ⟨_, rfl⟩ (Walks.list hh s.heap.objs.size ax (Nat.ne_of_lt hlt) its.toArray) ?_ (fun i h st => by obtain ⟨o, e, _⟩ := st.1; exact ⟨o, e⟩) (by simpa using hsz) (by simpa using hr.length) ?_ ⟨⟨_, Heap.get?_push_size _ rfl, rfl, rfl⟩, hl.push _⟩ (fun b o e => Heap.get?_push_of_some _ e) (Nat.le_refl _)
    · intro b hb
      rcases List.mem_cons.mp hb with rfl | hb
      · exact .inl rfl
      · rw [List.mem_singleton.mp hb]; obtain ⟨o, e, _⟩ := hl; exact .inr ⟨o, e⟩
    · intro i v d hv hd
      obtain ⟨d', e, hr'⟩ := hr.get (by simpa using hv)
      rw [hd] at e; cases e; exact hr'
  | @range r b t u v n hr hsm hn hsz hds hP =>
    refine wpAny_pyIter_range hr hsm ?_
    refine h _ _ _ _ _ _ rfl ⟨_, rfl⟩ (LCg.range_walks hh 0 n) ?_ (fun i h st => ⟨_, st⟩) hsz hds ?_ (by show IsRangeIter _ _ _ _ _; rw [hn]; simpa using Heap.get?_push_size _ rfl) (fun b o e => Heap.get?_push_of_some _ e) (Nat.le_refl _)
    · intro b hb; rw [List.mem_singleton.mp hb]; exact .inl rfl
    · rintro i v d ⟨t', rfl⟩ hd
      rw [Int.zero_add]; exact hP i t' d hd
end
end Mine
end PartC1

section PartC2
open PySem PySem.W PyProof.Rows PySem.Calls
namespace Mine
/-- objects of h that are new since g -/
def Made (g h : Heap) (l : List (Addr × Obj)) : Prop := ∀ p ∈ l, h.get? p.1 = some p.2 ∧ g.get? p.1 = none
theorem Fr.sameC {g h h' : Heap} {C : Addr} {m : Str → Option Value} (F : Fr g C h m) (hs : Heap.SameBut C h h') : Ext g h' :=
  fun b o e => hs.extBut b o (fun q => by rw [q, Heap.get?_none_of_le F.above] at e; cases e) (F.keep b o e)
theorem made_of {g h h' : Heap} {C : Addr} {l : List (Addr × Obj)} (N : News g C h l) (hs : Heap.SameBut C h h') : Made g h' l :=
  fun p hp => ⟨hs.extBut _ _ (N p hp).2.1 (N p hp).1, (N p hp).2.2⟩
section
variable {prog : Program} {w : World} {A : Around} {E : Value → Shared → Prop} {s : Shared} {env : Env}
def TurnL {α : Type} (prog : Program) (w : World) (A : Around) (env : Env) (elt : Expr) (x : Str) (scope : Scope) (cl : List (Str × Addr)) (s₁ : Shared) (R : α → Value → Prop) (PP : α → Value → List (Addr × Obj) → Prop) (ds : List α) : Prop :=
  ∀ d v C m' nw H tk E', d ∈ ds → R d v → m' x = some v → Fr s₁.heap C H m' → News s₁.heap C H nw →
    wpAny (model prog w) A (eval elt (compEnvC scope cl C env)) (EltPost s₁.heap C m' { s₁ with heap := H, toks := tk } nw (PP d)) E' { s₁ with heap := H, toks := tk }
def TurnC {α : Type} (prog : Program) (w : World) (A : Around) (env : Env) (elt : Expr) (x : Str) (scope : Scope) (cl : List (Str × Addr)) (s₁ : Shared) (R : α → Value → Prop) (PP : α → Value → List (Addr × Obj) → Prop) (ds : List α) : Prop :=
  ∀ d v C c oc m' nw H tk E', d ∈ ds → R d v → oc.data = .cell (some v) → Fr s₁.heap C H m' → News s₁.heap C H ((c, oc) :: nw) →
    wpAny (model prog w) A (eval elt (compEnvC scope ((x, c) :: cl) C env)) (EltPost s₁.heap C m' { s₁ with heap := H, toks := tk } ((c, oc) :: nw) (PP d)) E' { s₁ with heap := H, toks := tk }
def FinQ {α : Type} (PP : α → Value → List (Addr × Obj) → Prop) (ds : List α) (s₁ : Shared) (Q : Value → Shared → Prop) : Prop :=
  ∀ D h' tk ys nw, Ext s₁.heap h' → Made s₁.heap h' ((D, LCg.lst ys) :: nw) → (∀ p ∈ nw, p.1 ≠ D) → All2 (fun d y => PP d y nw) ds ys → Q (.ref D) { s₁ with heap := h', toks := tk }
def FinA {α : Type} (PP : α → Value → List (Addr × Obj) → Prop) (ds : List α) (s₁ : Shared) (L : Addr) (y : Str) (m : Str → Option Value) (Q : Flow → Shared → Prop) : Prop :=
  ∀ D h' tk ys nw, h'.Ns L (fun z => if z = y then some (.ref D) else m z) → (∀ b o, b ≠ L → s₁.heap.get? b = some o → h'.get? b = some o) → Made s₁.heap h' ((D, LCg.lst ys) :: nw) → (∀ p ∈ nw, p.1 ≠ D) → All2 (fun d y => PP d y nw) ds ys →
    Q .next { s₁ with heap := h', toks := tk }

inductive PreE {α : Type} (prog : Program) (w : World) (A : Around) (env : Env) (elt : Expr) (x : Str) (scope : Scope) (cl : List (Str × Addr)) (PP : α → Value → List (Addr × Obj) → Prop) (Q : Value → Shared → Prop) (xv : Value) (s₁ : Shared) : Prop
  | mk (ds : List α) (R : α → Value → Prop) : Src s₁.heap R ds xv → TurnL prog w A env elt x scope cl s₁ R PP ds → FinQ PP ds s₁ Q → PreE prog w A env elt x scope cl PP Q xv s₁
inductive PreEc {α : Type} (prog : Program) (w : World) (A : Around) (env : Env) (elt : Expr) (x : Str) (scope : Scope) (cl : List (Str × Addr)) (PP : α → Value → List (Addr × Obj) → Prop) (Q : Value → Shared → Prop) (xv : Value) (s₁ : Shared) : Prop
  | mk (ds : List α) (R : α → Value → Prop) : Src s₁.heap R ds xv → TurnC prog w A env elt x scope cl s₁ R PP ds → FinQ PP ds s₁ Q → PreEc prog w A env elt x scope cl PP Q xv s₁
inductive PreA {α : Type} (prog : Program) (w : World) (A : Around) (env : Env) (elt : Expr) (x y : Str) (scope : Scope) (cl : List (Str × Addr)) (PP : α → Value → List (Addr × Obj) → Prop) (Q : Flow → Shared → Prop) (xv : Value) (s₁ : Shared) : Prop
  | mk (ds : List α) (R : α → Value → Prop) (m : Str → Option Value) : Src s₁.heap R ds xv → TurnL prog w A env elt x scope cl s₁ R PP ds → s₁.heap.Ns env.locals m → FinA PP ds s₁ env.locals y m Q → PreA prog w A env elt x y scope cl PP Q xv s₁
inductive PreAc {α : Type} (prog : Program) (w : World) (A : Around) (env : Env) (elt : Expr) (x y : Str) (scope : Scope) (cl : List (Str × Addr)) (PP : α → Value → List (Addr × Obj) → Prop) (Q : Flow → Shared → Prop) (xv : Value) (s₁ : Shared) : Prop
  | mk (ds : List α) (R : α → Value → Prop) (m : Str → Option Value) : Src s₁.heap R ds xv → TurnC prog w A env elt x scope cl s₁ R PP ds → s₁.heap.Ns env.locals m → FinA PP ds s₁ env.locals y m Q → PreAc prog w A env elt x y scope cl PP Q xv s₁
theorem comp_E {α : Type} {elt iter : Expr} {x : Str} {px : Pos} {scope : Scope} {cl : List (Str × Addr)} {pos : Pos} {Q : Value → Shared → Prop} (PP : α → Value → List (Addr × Obj) → Prop)
    (mono : ∀ d y l l', PP d y l → (∀ p ∈ l, p ∈ l') → PP d y l')
    (h : wpAny (model prog w) A (eval iter env) (fun xv s₁ => Stop (PreE prog w A env elt x scope cl PP Q xv s₁)) E s)
    (hclos : closureFor scope env = pure cl := by with_unfolding_all rfl) (ha1 : ∀ n, cellsFrom n scope.names cl = cl := by intro _; rfl) (ha2 : ∀ h, pushCells h scope.names = h := by intro _; rfl) (hkind : scope.kind = .function := by rfl)
    (hnames : ∀ y ∈ scope.names, y.2 = .local → scope.names.lookup y.1 = some .local := by decide) (hx : scope.names.lookup x = some .local := by rfl) (hh : A.handled = none := by rfl)
    (hs : ∀ x, foldedSetIterable iter env x = pure x := by intro _; rfl) :
    wpAny (model prog w) A (eval (.ListComp elt [⟨.Name x px, iter, [], 0⟩] scope pos) env) Q E s := by
  rw [eval_ListComp]
  refine wpAny_comprehension_free (use := none) rfl hs hclos hkind hnames (wpAny_mono h (fun xv s₁ h₁ => ?_) fun _ _ e => e)
  obtain ⟨ds, R, S, T, fin⟩ := h₁.out
  refine src_iter hh S fun I s₂ fp n P St _ hs2 W hfp hIo hsz hds hP hst hg hgI => ?_
  obtain ⟨h', rfl⟩ := hs2
  refine block_local W hfp hIo hsz hds hP mono hst hg hgI ha1 ha2 hkind hx T ?_
  intro D C h' tk ys nw m' F N off hall
  exact ⟨m', F.ns, fun h'' hs'' => fin D h'' tk ys nw (Mine.Fr.sameC F hs'') (made_of N hs'') off hall⟩
theorem comp_Ec {α : Type} {elt iter : Expr} {x : Str} {px : Pos} {scope : Scope} {cl : List (Str × Addr)} {pos : Pos} {Q : Value → Shared → Prop} (PP : α → Value → List (Addr × Obj) → Prop)
    (mono : ∀ d y l l', PP d y l → (∀ p ∈ l, p ∈ l') → PP d y l')
    (h : wpAny (model prog w) A (eval iter env) (fun xv s₁ => Stop (PreEc prog w A env elt x scope cl PP Q xv s₁)) E s)
    (hclos : closureFor scope env = pure cl := by with_unfolding_all rfl) (ha1 : ∀ n, cellsFrom n scope.names cl = (x, n) :: cl := by intro _; rfl) (ha2 : ∀ h, pushCells h scope.names = h.push { cls := .type "cell", data := .cell none } := by intro _; rfl) (hkind : scope.kind = .function := by rfl)
    (hnames : ∀ y ∈ scope.names, y.2 = .local → scope.names.lookup y.1 = some .local := by decide) (hx : ∀ C c, (compEnvC scope ((x, c) :: cl) C env).kindOf x = some .cell := by intro _ _; rfl) (hh : A.handled = none := by rfl)
    (hs : ∀ x, foldedSetIterable iter env x = pure x := by intro _; rfl) :
    wpAny (model prog w) A (eval (.ListComp elt [⟨.Name x px, iter, [], 0⟩] scope pos) env) Q E s := by
  rw [eval_ListComp]
  refine wpAny_comprehension_free (use := none) rfl hs hclos hkind hnames (wpAny_mono h (fun xv s₁ h₁ => ?_) fun _ _ e => e)
  obtain ⟨ds, R, S, T, fin⟩ := h₁.out
  refine src_iter hh S fun I s₂ fp n P St _ hs2 W hfp hIo hsz hds hP hst hg hgI => ?_
  obtain ⟨h', rfl⟩ := hs2
  refine block_cell W hfp hIo hsz hds hP mono hst hg hgI ha1 ha2 hkind hx T ?_
  intro D C h' tk ys nw m' F N off hall
  exact ⟨m', F.ns, fun h'' hs'' => fin D h'' tk ys nw (Mine.Fr.sameC F hs'') (made_of N hs'') off hall⟩

theorem fin_assign {α : Type} {PP : α → Value → List (Addr × Obj) → Prop} {ds : List α} {s₁ : Shared} {y : Str} {py : Pos} {m m' : Str → Option Value} {Q : Flow → Shared → Prop} {C D : Addr} {h' : Heap} {tk : Tok} {ys : List Value} {nw : List (Addr × Obj)}
    (hn : s₁.heap.Ns env.locals m) (hy : env.kindOf y = some .local) (hp : (env.scope.kind == .class || (env.scope.kind == .module && env.locals != env.globals)) = false)
    (fin : FinA PP ds s₁ env.locals y m Q) (F : Fr s₁.heap C h' m') (N : News s₁.heap C h' ((D, LCg.lst ys) :: nw)) (off : ∀ p ∈ nw, p.1 ≠ D) (hall : All2 (fun d y => PP d y nw) ds ys) :
    wpAny (model prog w) A (assign (.Name y py) env (.ref D)) (fun _ s'' => ∃ m, s''.heap.Ns C m ∧ ∀ h', Heap.SameBut C s''.heap h' → Q .next { s'' with heap := h' }) E { s₁ with heap := h', toks := tk } := by
  have hLC : env.locals ≠ C := by rintro q; obtain ⟨o, _, _, ho, _⟩ := hn; rw [q, Heap.get?_none_of_le F.above] at ho; cases ho
  have hL0 : ∀ p ∈ (D, LCg.lst ys) :: nw, p.1 ≠ env.locals := fun p hp q => by obtain ⟨o, _, _, ho, _⟩ := hn; rw [← q, (N p hp).2.2] at ho; cases ho
  refine wpAny_assign_Name (wpAny_storeName_local hy (hn.keeps F.keep) (fun h₂ hn₂ hs₂ => ?_) hp)
  refine ⟨m', F.ns.sameBut hs₂ (Ne.symm hLC), fun h₃ hs₃ => ?_⟩
  refine fin D h₃ _ ys nw (hn₂.sameBut hs₃ hLC) (fun b o hb e => hs₃.extBut b o (fun q => by rw [q, Heap.get?_none_of_le F.above] at e; cases e) (hs₂.extBut b o hb (F.keep b o e))) ?_ off hall
  intro p hp
  exact ⟨hs₃.extBut _ _ (N p hp).2.1 (hs₂.extBut _ _ (hL0 p hp) (N p hp).1), (N p hp).2.2⟩

theorem comp_A {α : Type} {elt iter : Expr} {x y : Str} {px py : Pos} {scope : Scope} {cl : List (Str × Addr)} {pos spos : Pos} {Q : Flow → Shared → Prop} (PP : α → Value → List (Addr × Obj) → Prop)
    (mono : ∀ d y l l', PP d y l → (∀ p ∈ l, p ∈ l') → PP d y l')
    (h : wpAny (model prog w) A (eval iter env) (fun xv s₁ => Stop (PreA prog w A env elt x y scope cl PP Q xv s₁)) E s)
    (hsw : swapsWith (.ListComp elt [⟨.Name x px, iter, [], 0⟩] scope pos) (some (.Name y py)) spos.line env = pure true := by with_unfolding_all rfl)
    (hclos : closureFor scope env = pure cl := by with_unfolding_all rfl) (ha1 : ∀ n, cellsFrom n scope.names cl = cl := by intro _; rfl) (ha2 : ∀ h, pushCells h scope.names = h := by intro _; rfl) (hkind : scope.kind = .function := by rfl)
    (hnames : ∀ y ∈ scope.names, y.2 = .local → scope.names.lookup y.1 = some .local := by decide) (hx : scope.names.lookup x = some .local := by rfl) (hh : A.handled = none := by rfl)
    (hy : env.kindOf y = some .local := by rfl) (hp : (env.scope.kind == .class || (env.scope.kind == .module && env.locals != env.globals)) = false := by rfl)
    (hs : ∀ x, foldedSetIterable iter env x = pure x := by intro _; rfl) :
    wpAny (model prog w) A (exec (.Assign [.Name y py] (.ListComp elt [⟨.Name x px, iter, [], 0⟩] scope pos) spos) env) Q E s := by
  rw [exec_Assign_Name_used _ _ _ _ hsw]
  refine wpAny_bind (wpAny_standAt (wpAny_bind ?_))
  show wpAny _ A (do let _ ← comprehension (.ListComp elt [⟨.Name x px, iter, [], 0⟩] scope pos) scope env _ (newList []) false (eval iter env) (some (assign (.Name y py) env))) _ _ s
  refine wpAny_bind (wpAny_mono (wpAny_comprehension_free (use := some (assign (.Name y py) env)) (Q := fun _ s' => Q .next s') rfl hs hclos hkind hnames
    (wpAny_mono h (fun xv s₁ h₁ => ?_) fun _ _ e => e)) (fun _ s' hq => wpAny_pure (wpAny_pure hq)) fun _ _ e => e)
  obtain ⟨ds, R, m, S, T, hn, fin⟩ := h₁.out
  refine src_iter hh S fun I s₂ fp n P St _ hs2 W hfp hIo hsz hds hP hst hg hgI => ?_
  obtain ⟨h', rfl⟩ := hs2
  refine block_local W hfp hIo hsz hds hP mono hst hg hgI ha1 ha2 hkind hx T ?_
  intro D C h' tk ys nw m' F N off hall
  exact fin_assign (s₁ := s₁) hn hy hp fin F N off hall
theorem comp_Ac {α : Type} {elt iter : Expr} {x y : Str} {px py : Pos} {scope : Scope} {cl : List (Str × Addr)} {pos spos : Pos} {Q : Flow → Shared → Prop} (PP : α → Value → List (Addr × Obj) → Prop)
    (mono : ∀ d y l l', PP d y l → (∀ p ∈ l, p ∈ l') → PP d y l')
    (h : wpAny (model prog w) A (eval iter env) (fun xv s₁ => Stop (PreAc prog w A env elt x y scope cl PP Q xv s₁)) E s)
    (hsw : swapsWith (.ListComp elt [⟨.Name x px, iter, [], 0⟩] scope pos) (some (.Name y py)) spos.line env = pure true := by with_unfolding_all rfl)
    (hclos : closureFor scope env = pure cl := by with_unfolding_all rfl) (ha1 : ∀ n, cellsFrom n scope.names cl = (x, n) :: cl := by intro _; rfl) (ha2 : ∀ h, pushCells h scope.names = h.push { cls := .type "cell", data := .cell none } := by intro _; rfl) (hkind : scope.kind = .function := by rfl)
    (hnames : ∀ y ∈ scope.names, y.2 = .local → scope.names.lookup y.1 = some .local := by decide) (hx : ∀ C c, (compEnvC scope ((x, c) :: cl) C env).kindOf x = some .cell := by intro _ _; rfl) (hh : A.handled = none := by rfl)
    (hy : env.kindOf y = some .local := by rfl) (hp : (env.scope.kind == .class || (env.scope.kind == .module && env.locals != env.globals)) = false := by rfl)
    (hs : ∀ x, foldedSetIterable iter env x = pure x := by intro _; rfl) :
    wpAny (model prog w) A (exec (.Assign [.Name y py] (.ListComp elt [⟨.Name x px, iter, [], 0⟩] scope pos) spos) env) Q E s := by
  rw [exec_Assign_Name_used _ _ _ _ hsw]
  refine wpAny_bind (wpAny_standAt (wpAny_bind ?_))
  show wpAny _ A (do let _ ← comprehension (.ListComp elt [⟨.Name x px, iter, [], 0⟩] scope pos) scope env _ (newList []) false (eval iter env) (some (assign (.Name y py) env))) _ _ s
  refine wpAny_bind (wpAny_mono (wpAny_comprehension_free (use := some (assign (.Name y py) env)) (Q := fun _ s' => Q .next s') rfl hs hclos hkind hnames
    (wpAny_mono h (fun xv s₁ h₁ => ?_) fun _ _ e => e)) (fun _ s' hq => wpAny_pure (wpAny_pure hq)) fun _ _ e => e)
  obtain ⟨ds, R, m, S, T, hn, fin⟩ := h₁.out
  refine src_iter hh S fun I s₂ fp n P St _ hs2 W hfp hIo hsz hds hP hst hg hgI => ?_
  obtain ⟨h', rfl⟩ := hs2
  refine block_cell W hfp hIo hsz hds hP mono hst hg hgI ha1 ha2 hkind hx T ?_
  intro D C h' tk ys nw m' F N off hall
  exact fin_assign (s₁ := s₁) hn hy hp fin F N off hall
end
end Mine
end PartC2

section PartC3
open PySem PySem.W PyProof.Rows PySem.Calls
namespace Mine
section
variable {prog : Program} {w : World} {A : Around} {E : Value → Shared → Prop} {R : Result → Shared → Prop} {s : Shared}
theorem compStart1 {elt t1 i1 t2 i2 ifs scope pos it acc env}
    (h0 : codeAny (model prog w) A (.compLoop (.ListComp elt [⟨t1, i1, [], 0⟩, ⟨t2, i2, ifs, 0⟩] scope pos) 1 it acc env) R s)
    (h : wpAny (model prog w) A (pyIter it) (fun it' s' => codeAny (model prog w) A (.compLoop (.ListComp elt [⟨t1, i1, [], 0⟩, ⟨t2, i2, ifs, 0⟩] scope pos) 1 it' acc env) R s')
      (notedBy (model prog w) A env fun x s' => R (.error x) s') s) :
    codeAny (model prog w) A (.compStart (.ListComp elt [⟨t1, i1, [], 0⟩, ⟨t2, i2, ifs, 0⟩] scope pos) 1 it acc env) R s := by
  refine codeAny_of_tree ?_
  show wpAny _ _ ((compStart (.ListComp elt [⟨t1, i1, [], 0⟩, ⟨t2, i2, ifs, 0⟩] scope pos) 1 it acc env).onRaise (fun x => do noteFrame x env; standAt theWindowsPlace)) _ _ s
  refine wpAny_notedAt ?_
  unfold compStart
  show wpAny _ _ (ask >>= _) _ _ s
  refine wpAny_bind (wpAny_askSetting (wpAny_ite ?_))
  split
  · first
      | exact wpAny_bind (wpAny_pure (wpAny_pure (And.intro rfl h0)))
      | exact wpAny_pure (And.intro rfl h0)
  · first
      | exact wpAny_bind (wpAny_rule (wpAny_bind (wpAny_standAt (wpAny_bind (wpAny_mono h (fun it' s' h' => wpAny_pure (And.intro rfl h')) fun _ _ x => x)))))
      | (refine wpAny_bind (wpAny_rule ?_); show wpAny _ _ (standAt i2.pos >>= _) _ _ s; exact wpAny_bind (wpAny_standAt (wpAny_bind (wpAny_mono h (fun it' s' h' => wpAny_pure (And.intro rfl h')) fun _ _ x => x))))

theorem compTurn_in (elt t1 i1 t2 i2 ct : Expr) (scope : Scope) (pos : Pos) (it acc : Value) (env : Env) :
    compTurn (.ListComp elt [⟨t1, i1, [], 0⟩, ⟨t2, i2, [ct], 0⟩] scope pos) 1 it acc env = (do
      standAt i2.pos
      match ← pyNext it with
      | none => pure (.done .next)
      | some v =>
        letOwnedTupleGo t2 it v
        assign t2 env v
        let mut ok := true
        for c in [ct] do
          if ok then ok ← isTrue c env (eval c env)
        if ok then
          (do let _ ← call (.builtin "list.append") [acc, ← eval elt env])
        again (.compLoop (.ListComp elt [⟨t1, i1, [], 0⟩, ⟨t2, i2, [ct], 0⟩] scope pos) 1 it acc env)) := by rfl
theorem compTurn_out (elt t1 i1 t2 i2 ct : Expr) (scope : Scope) (pos : Pos) (it acc : Value) (env : Env) :
    compTurn (.ListComp elt [⟨t1, i1, [], 0⟩, ⟨t2, i2, [ct], 0⟩] scope pos) 0 it acc env = (do
      standAt i1.pos
      match ← pyNext it with
      | none => pure (.done .next)
      | some v =>
        letOwnedTupleGo t1 it v
        assign t1 env v
        let mut ok := true
        for c in ([] : List Expr) do
          if ok then ok ← isTrue c env (eval c env)
        if ok then
          let x ← eval i2 env
          standAt i2.pos
          let x ← foldedSetIterable i2 env x
          let _ ← runOwn (.compStart (.ListComp elt [⟨t1, i1, [], 0⟩, ⟨t2, i2, [ct], 0⟩] scope pos) 1 (← holding [x] (pyIter x)) acc env) env
        again (.compLoop (.ListComp elt [⟨t1, i1, [], 0⟩, ⟨t2, i2, [ct], 0⟩] scope pos) 0 it acc env)) := by rfl

theorem loop_in {elt t1 i1 t2 i2 ct : Expr} {scope : Scope} {pos : Pos} {it acc : Value} {env : Env} (I : Nat → Shared → Prop)
    (turn : ∀ n s, I n s → wpAny (model prog w) A (pyNext it) (fun r s₁ => match r with
      | none => R (.ok .next) s₁
      | some v => wpAny (model prog w) A (assign t2 env v) (fun _ s₂ =>
          wpAny (model prog w) A (isTrue ct env (eval ct env)) (fun ok s₃ =>
            if ok = true then wpAny (model prog w) A (eval elt env) (fun x s₄ =>
              wpAny (model prog w) A (call (.builtin "list.append") [acc, x]) (fun _ s₅ => ∃ m, m < n ∧ I m s₅) (notedBy (model prog w) A env fun e s' => R (.error e) s') s₄) (notedBy (model prog w) A env fun e s' => R (.error e) s') s₃
            else ∃ m, m < n ∧ I m s₃) (notedBy (model prog w) A env fun e s' => R (.error e) s') s₂) (notedBy (model prog w) A env fun e s' => R (.error e) s') s₁) (notedBy (model prog w) A env fun e s' => R (.error e) s') s)
    (n : Nat) (h : I n s) (ht : ∀ v, letOwnedTupleGo t2 it v = pure () := by intro _; rfl) :
    codeAny (model prog w) A (.compLoop (.ListComp elt [⟨t1, i1, [], 0⟩, ⟨t2, i2, [ct], 0⟩] scope pos) 1 it acc env) R s := by
  refine codeAny_loop rfl I (fun n s hI => ?_) n h
  show wpAny _ A ((compTurn (.ListComp elt [⟨t1, i1, [], 0⟩, ⟨t2, i2, [ct], 0⟩] scope pos) 1 it acc env).onRaise (fun x => do noteFrame x env; theTreesLotGoes x)) _ _ s
  refine wpAny_noted ?_
  rw [compTurn_in]
  refine wpAny_bind (wpAny_standAt (wpAny_bind (wpAny_mono (turn n s hI) (fun r s₁ h₁ => ?_) fun _ _ h' => h')))
  cases r with
  | none => exact wpAny_pure h₁
  | some v =>
    refine wpAny_bind (wpAny_of_eq (ht v) ?_)
    refine wpAny_bind (wpAny_mono h₁ (fun _ s₂ h₂ => wpAny_bind (wpAny_tests_one (wpAny_mono h₂ (fun ok s₃ h₃ => ?_) fun _ _ h' => h'))) fun _ _ h' => h')
    cases ok with
    | true =>
      simp only [if_true] at h₃ ⊢
      exact wpAny_bind (wpAny_bind (wpAny_mono h₃ (fun x s₄ h₄ => wpAny_bind (wpAny_mono h₄ (fun _ s₅ h₅ => wpAny_pure (wpAny_pure ⟨rfl, h₅⟩)) fun _ _ h' => h')) fun _ _ h' => h'))
    | false =>
      simp only [Bool.false_eq_true, if_false] at h₃ ⊢
      exact wpAny_bind (wpAny_pure (wpAny_pure ⟨rfl, h₃⟩))

theorem loop_out {elt t1 i1 t2 i2 ct : Expr} {scope : Scope} {pos : Pos} {it acc : Value} {env : Env} (I : Nat → Shared → Prop)
    (turn : ∀ n s, I n s → wpAny (model prog w) A (pyNext it) (fun r s₁ => match r with
      | none => R (.ok .next) s₁
      | some v => wpAny (model prog w) A (assign t1 env v) (fun _ s₂ =>
          wpAny (model prog w) A (eval i2 env) (fun xv s₃ => wpAny (model prog w) A (pyIter xv) (fun it' s₄ =>
            codeAny (model prog w) A (.compStart (.ListComp elt [⟨t1, i1, [], 0⟩, ⟨t2, i2, [ct], 0⟩] scope pos) 1 it' acc env)
              (fun r s₅ => match r with | .ok _ => ∃ m, m < n ∧ I m s₅ | .error e => cameBackBy (model prog w) A env (notedBy (model prog w) A env fun e s' => R (.error e) s') e s₅) s₄)
            (notedBy (model prog w) A env fun e s' => R (.error e) s') s₃)
            (notedBy (model prog w) A env fun e s' => R (.error e) s') s₂) (notedBy (model prog w) A env fun e s' => R (.error e) s') s₁) (notedBy (model prog w) A env fun e s' => R (.error e) s') s)
    (n : Nat) (h : I n s) (ht : ∀ v, letOwnedTupleGo t1 it v = pure () := by intro _; rfl) (hs : ∀ x, foldedSetIterable i2 env x = pure x := by intro _; rfl) :
    codeAny (model prog w) A (.compLoop (.ListComp elt [⟨t1, i1, [], 0⟩, ⟨t2, i2, [ct], 0⟩] scope pos) 0 it acc env) R s := by
  refine codeAny_loop rfl I (fun n s hI => ?_) n h
  show wpAny _ A ((compTurn (.ListComp elt [⟨t1, i1, [], 0⟩, ⟨t2, i2, [ct], 0⟩] scope pos) 0 it acc env).onRaise (fun x => do noteFrame x env; theTreesLotGoes x)) _ _ s
  refine wpAny_noted ?_
  rw [compTurn_out]
  refine wpAny_bind (wpAny_standAt (wpAny_bind (wpAny_mono (turn n s hI) (fun r s₁ h₁ => ?_) fun _ _ h' => h')))
  cases r with
  | none => exact wpAny_pure h₁
  | some v =>
    refine wpAny_bind (wpAny_of_eq (ht v) ?_)
    refine wpAny_bind (wpAny_mono h₁ (fun _ s₂ h₂ => wpAny_bind (wpAny_tests_nil ?_)) fun _ _ h' => h')
    simp only [if_true]
    refine wpAny_bind (wpAny_mono h₂ (fun xv s₃ h₃ => ?_) fun _ _ h' => h')
    refine wpAny_bind (wpAny_standAt (wpAny_bind (wpAny_of_eq (hs xv) (wpAny_bind (wpAny_holding (wpAny_mono h₃ (fun it' s₄ h₄ => ?_) fun _ _ h' => h'))))))
    refine wpAny_bind (wpAny_runOwn (codeAny_mono h₄ fun r s₅ h₅ => ?_))
    cases r with
    | ok f => exact wpAny_pure ⟨rfl, h₅⟩
    | error e => exact h₅
end
end Mine
end PartC3

section PartC4
open PySem PySem.W PyProof.Rows PySem.Calls
namespace Mine
def pairsOf {α : Type} (bb : α → Nat → Bool) (ds : List α) : List (α × Nat) := ds.flatMap fun d => ((List.range 4).filter (bb d)).map fun j => (d, j)
inductive RangeR (s : Shared) (g : Heap) (C : Addr) (m' : Str → Option Value) (nw : List (Addr × Obj)) (xv : Value) (s' : Shared) : Prop
  | mk (h' : Heap) (tk' : Nat) (r : Addr) (t u v : Tok) : xv = .ref r → s' = { s with heap := h', toks := tk' } → IsRange h' r 0 4 1 t u v → Fr g C h' m' → News g C h' nw → RangeR s g C m' nw xv s'
inductive TestR (b : Bool) (s : Shared) (g : Heap) (C : Addr) (m' : Str → Option Value) (nw : List (Addr × Obj)) (ok : Bool) (s' : Shared) : Prop
  | mk (e : ok = b) (h' : Heap) (tk' : Nat) : s' = { s with heap := h', toks := tk' } → Fr g C h' m' → News g C h' nw → TestR b s g C m' nw ok s'
inductive Inv1 {α : Type} (s : Shared) (n : Nat) (St : Nat → Heap → Prop) (g : Heap) (C I D : Addr) (PP : α × Nat → Value → List (Addr × Obj) → Prop) (bb : α → Nat → Bool) (ds : List α) (k : Nat) (s' : Shared) : Prop
  | mk (h' : Heap) (tk i : Nat) (ys : List Value) (m' : Str → Option Value) (oI : Obj) (nw : List (Addr × Obj)) : s' = { s with heap := h', toks := tk } → i ≤ n → k = n + 1 - i → ys.length ≤ 4 * i → St i h' → Fr g C h' m' → News g C h' ((I, oI) :: (D, LCg.lst ys) :: nw) →
      (∀ p ∈ nw, p.1 ≠ I ∧ p.1 ≠ D) → All2 (fun d y => PP d y nw) (pairsOf bb (ds.take i)) ys → Inv1 s n St g C I D PP bb ds k s'
inductive Inv2 {α : Type} (s : Shared) (i : Nat) (v : Value) (x : Str) (St : Nat → Heap → Prop) (g : Heap) (C I D I2 : Addr) (oI' : Obj) (PP : α × Nat → Value → List (Addr × Obj) → Prop) (bb : α → Nat → Bool) (d : α) (ds : List α) (k : Nat) (s' : Shared) : Prop
  | mk (h' : Heap) (tk j : Nat) (zs : List Value) (m₅ : Str → Option Value) (o2 : Obj) (nw' : List (Addr × Obj)) : s' = { s with heap := h', toks := tk } → j ≤ 4 → k = 5 - j → zs.length ≤ 4 * i + j → IsRangeIter h' I2 (0 + ((j : Nat) : Int) * 1) (((4 : Nat) : Int) - ((j : Nat) : Int)) 1 → St (i + 1) h' →
      Fr g C h' m₅ → m₅ x = some v → News g C h' ((I2, o2) :: (I, oI') :: (D, LCg.lst zs) :: nw') → (∀ p ∈ nw', p.1 ≠ I ∧ p.1 ≠ D ∧ p.1 ≠ I2) →
      All2 (fun d y => PP d y nw') (pairsOf bb (ds.take i) ++ ((List.range j).filter (bb d)).map fun j => (d, j)) zs → Inv2 s i v x St g C I D I2 oI' PP bb d ds k s'
section
variable {prog : Program} {w : World} {A : Around}
theorem core2 {α : Type} {elt i1 i2 ct : Expr} {x y : Str} {px py : Pos} {scope : Scope} {pos : Pos} {I D C : Addr} {cenv : Env} {g : Heap} {n : Nat} {P : Nat → Value → Prop} {St : Nat → Heap → Prop} {fp : List Addr}
    {PP : α × Nat → Value → List (Addr × Obj) → Prop} {R : α → Value → Prop} {ds : List α} {bb : α → Nat → Bool} {s : Shared} {RR : Result → Shared → Prop} {m : Str → Option Value}
    (hs : ∀ x, foldedSetIterable i2 cenv x = pure x) (hh : A.handled = none) (W : Walks prog w A I fp [I] n P St) (hfp : ∀ b ∈ fp, b = I ∨ ∃ o, g.get? b = some o) (hIo : ∀ i h, St i h → ∃ o, h.get? I = some o) (hsz : n ≤ 1000)
    (hC : cenv.locals = C) (hk : cenv.scope.kind = .function) (hx : cenv.kindOf x = some .local) (hy : cenv.kindOf y = some .local) (hxy : x ≠ y)
    (hds : ds.length = n) (hP : ∀ i v d, P i v → ds[i]? = some d → R d v) (mono : ∀ d y l l', PP d y l → (∀ p ∈ l, p ∈ l') → PP d y l')
    (hst : St 0 s.heap) (F : Fr g C s.heap m) {oI : Obj} (N : News g C s.heap [(I, oI), (D, LCg.lst [])]) (hID : I ≠ D)
    (iter2 : ∀ m' nw H tk E', Fr g C H m' → News g C H nw → wpAny (model prog w) A (eval i2 cenv) (fun xv s' => Stop (RangeR { s with heap := H, toks := tk } g C m' nw xv s')) E' { s with heap := H, toks := tk })
    (test : ∀ d v (j : Nat) t m' nw H tk E', d ∈ ds → R d v → j < 4 → m' x = some v → m' y = some (.int j t) → Fr g C H m' → News g C H nw →
      wpAny (model prog w) A (isTrue ct cenv (eval ct cenv)) (fun ok s' => Stop (TestR (bb d j) { s with heap := H, toks := tk } g C m' nw ok s')) E' { s with heap := H, toks := tk })
    (turn : ∀ d v (j : Nat) t m' nw H tk E', d ∈ ds → R d v → j < 4 → bb d j = true → m' x = some v → m' y = some (.int j t) → Fr g C H m' → News g C H nw →
      wpAny (model prog w) A (eval elt cenv) (EltPost g C m' { s with heap := H, toks := tk } nw (PP (d, j))) E' { s with heap := H, toks := tk })
    (fin : ∀ h' tk ys nw m', Fr g C h' m' → News g C h' ((D, LCg.lst ys) :: nw) → (∀ p ∈ nw, p.1 ≠ D) → All2 (fun d y => PP d y nw) (pairsOf bb ds) ys → RR (.ok .next) { s with heap := h', toks := tk }) :
    codeAny (model prog w) A (.compLoop (.ListComp elt [⟨.Name x px, i1, [], 0⟩, ⟨.Name y py, i2, [ct], 0⟩] scope pos) 0 (.ref I) (.ref D) cenv) RR s := by
  subst hC
  refine loop_out (hs := hs)
    (fun k s' => Inv1 s n St g cenv.locals I D PP bb ds k s') ?_ (n + 1)
    ⟨s.heap, s.toks, 0, [], m, oI, [], rfl, Nat.zero_le _, rfl, Nat.zero_le _, hst, F, N, (fun p hp => nomatch hp), by simpa [pairsOf] using All2.nil⟩
  rintro k s' ⟨h', tk, i, ys, m', oI, nw, rfl, hi, rfl, hyl, hst', F', N', off2, hall⟩
  have zI := N' (I, oI) (.head _)
  have hFr1 : ∀ {h₂ : Heap}, (∀ b o, b ∉ [I] → h'.get? b = some o → h₂.get? b = some o) → Fr g cenv.locals h₂ m' := fun hk =>
    ⟨F'.ns.at' fun o e => hk cenv.locals o (by simpa using Ne.symm zI.2.1) e, fun b o e => hk b o (fun q => by rw [List.mem_singleton.mp q, zI.2.2] at e; cases e) (F'.keep b o e), F'.above⟩
  by_cases hlt : i < n
  · refine W.item i _ _ _ hlt hst' fun v h₁ tk₁ hPv hst₁ hk₁ => ?_
    obtain ⟨oI', heI⟩ := hIo _ _ hst₁
    have F₁ := hFr1 hk₁
    have N₁ : News g cenv.locals h₁ ((I, oI') :: (D, LCg.lst ys) :: nw) := by
      intro p hp
      rcases List.mem_cons.mp hp with rfl | hp
      · exact ⟨heI, zI.2⟩
      · have z := N' p (.tail _ hp)
        refine ⟨hk₁ _ _ ?_ z.1, z.2⟩
        rcases List.mem_cons.mp hp with rfl | hp
        · simpa using Ne.symm hID
        · simpa using (off2 p hp).1
    refine wpAny_assign_Name (wpAny_storeName_local hx F₁.ns (fun h₂ hn₂ hs₂ => ?_) (by simp [hk]))
    have F₂ := F₁.set hn₂ hs₂
    have N₂ := N₁.set hs₂
    have hmx : (fun z => if z = x then some v else m' z) x = some v := by simp
    generalize (fun z => if z = x then some v else m' z) = m₂ at F₂ hmx
    clear hn₂
    obtain ⟨d, hd⟩ : ∃ d, ds[i]? = some d := ⟨ds[i]'(by omega), by simp [hds, hlt]⟩
    have hdm := List.mem_of_getElem? hd
    have hR := hP i v d hPv hd
    have hst₂ : St (i + 1) h₂ := W.frame _ _ _ hst₁ fun b hb o e => by
      rcases hfp b hb with rfl | ⟨o', hg⟩
      · rw [heI] at e; cases e; exact (N₂ (b, oI') (.head _)).1
      · rw [F₁.keep _ _ hg] at e; cases e; exact F₂.keep _ _ hg
    refine wpAny_mono (iter2 m₂ _ h₂ _ _ F₂ N₂) (fun xv s₃ q => ?_) fun _ _ e => e
    obtain ⟨h₃, tk₃, r, tr, ur, vr, rfl, rfl, hr, F₃, N₃⟩ := q.out
    have hst₃ : St (i + 1) h₃ := W.frame _ _ _ hst₂ fun b hb o e => by
      rcases hfp b hb with rfl | ⟨o', hg⟩
      · rw [(N₂ (b, oI') (.head _)).1] at e; cases e; exact (N₃ (b, oI') (.head _)).1
      · rw [F₂.keep _ _ hg] at e; cases e; exact F₃.keep _ _ hg
    refine wpAny_pyIter_range hr (by decide) ?_
    have hpush : Ext h₃ (h₃.push { cls := .type "range_iterator", data := .fields #[rawInt 0, rawInt (Builtin.Range.rangeSize 0 4 1), rawInt 1] }) := fun b o e => Heap.get?_push_of_some _ e
    have hI2 : (h₃.push { cls := .type "range_iterator", data := .fields #[rawInt 0, rawInt (Builtin.Range.rangeSize 0 4 1), rawInt 1] }).get? h₃.objs.size = some _ := Heap.get?_push_size _ rfl
    have hSt2 : IsRangeIter (h₃.push { cls := .type "range_iterator", data := .fields #[rawInt 0, rawInt (Builtin.Range.rangeSize 0 4 1), rawInt 1] }) h₃.objs.size (0 + ((0 : Nat) : Int) * 1) (((4 : Nat) : Int) - ((0 : Nat) : Int)) 1 := hI2
    have F₄ := F₃.keeps hpush
    have N₄ := N₃.grown hpush
    have hst₄ : St (i + 1) _ := W.frame _ _ _ hst₃ fun b _ o e => hpush b o e
    have hne2 : ∀ p ∈ (I, oI') :: (D, LCg.lst ys) :: nw, p.1 ≠ h₃.objs.size := fun p hp => Nat.ne_of_lt (Heap.lt_size (N₃ p hp).1)
    have hg2 : g.get? h₃.objs.size = none := by
      cases q : g.get? h₃.objs.size with
      | none => rfl
      | some o => exact absurd (Heap.lt_size (F₃.keep _ _ q)) (Nat.lt_irrefl _)
    have hL2 : h₃.objs.size ≠ cenv.locals := Ne.symm (Nat.ne_of_lt (by obtain ⟨o, _, _, e, _⟩ := F₃.ns; exact Heap.lt_size e))
    generalize h₃.push { cls := .type "range_iterator", data := .fields #[rawInt 0, rawInt (Builtin.Range.rangeSize 0 4 1), rawInt 1] } = h₄ at *
    generalize h₃.objs.size = I2 at *
    have W2 := LCg.range_walks (prog := prog) (w := w) (I := I2) hh 0 4
    have inner : ∀ s₅ : Shared, s₅ = { s with heap := h₄, toks := tk₃ } → codeAny (model prog w) A (.compLoop (.ListComp elt [⟨.Name x px, i1, [], 0⟩, ⟨.Name y py, i2, [ct], 0⟩] scope pos) 1 (.ref I2) (.ref D) cenv)
        (fun r s₅ => match r with
          | .ok _ => ∃ m, m < n + 1 - i ∧ Inv1 s n St g cenv.locals I D PP bb ds m s₅
          | .error e => cameBackBy (model prog w) A cenv (notedBy (model prog w) A cenv fun e s' => RR (.error e) s') e s₅) s₅ := by
      rintro s₅ rfl
      refine loop_in
        (fun k s' => Inv2 s i v x St g cenv.locals I D I2 oI' PP bb d ds k s') ?_ 5
        ⟨h₄, tk₃, 0, ys, m₂, _, nw, rfl, by omega, rfl, by omega, hSt2, hst₄, F₄, hmx, News.one hI2 ⟨hL2, hg2⟩ N₄, fun p hp => ⟨(off2 p hp).1, (off2 p hp).2, hne2 p (.tail _ (.tail _ hp))⟩, by simpa using hall⟩
      rintro k s' ⟨h₅, tk₅, j, zs, m₅, o2, nw', rfl, hj, rfl, hzl, hit, hst₅, F₅, hm₅, N₅, off₅, hall₅⟩
      have z2 := N₅ (I2, o2) (.head _)
      have hne2I : (I : Addr) ≠ I2 := hne2 (I, oI') (.head _)
      have hne2D : (D : Addr) ≠ I2 := hne2 (D, LCg.lst ys) (.tail _ (.head _))
      have stay2 : ∀ {h₆ : Heap}, (∀ b o, b ∉ [I2] → h₅.get? b = some o → h₆.get? b = some o) → Fr g cenv.locals h₆ m₅ ∧ News g cenv.locals h₆ ((I, oI') :: (D, LCg.lst zs) :: nw') ∧ St (i + 1) h₆ := by
        intro h₆ hk6
        have hn6 : News g cenv.locals h₆ ((I, oI') :: (D, LCg.lst zs) :: nw') := by
          intro p hp
          have z := N₅ p (.tail _ hp)
          refine ⟨hk6 _ _ ?_ z.1, z.2⟩
          rcases List.mem_cons.mp hp with rfl | hp
          · simpa using hne2I
          · rcases List.mem_cons.mp hp with rfl | hp
            · simpa using hne2D
            · simpa using (off₅ p hp).2.2
        have hf6 : Fr g cenv.locals h₆ m₅ := ⟨F₅.ns.at' fun o e => hk6 cenv.locals o (by simpa using Ne.symm z2.2.1) e, fun b o e => hk6 b o (fun q => by rw [List.mem_singleton.mp q, z2.2.2] at e; cases e) (F₅.keep b o e), F₅.above⟩
        refine ⟨hf6, hn6, W.frame _ _ _ hst₅ fun b hb o e => ?_⟩
        rcases hfp b hb with rfl | ⟨o', hg⟩
        · rw [(N₅ (b, oI') (.tail _ (.head _))).1] at e; cases e; exact (hn6 (b, oI') (.head _)).1
        · rw [F₅.keep _ _ hg] at e; cases e; exact hf6.keep _ _ hg
      by_cases hj4 : j < 4
      · refine W2.item j _ _ _ hj4 hit fun u h₆ tk₆ hPu hit₆ hk₆ => ?_
        obtain ⟨tu, rfl⟩ := hPu
        obtain ⟨F₆, N₆, hst₆⟩ := stay2 hk₆
        obtain ⟨oi2, he2⟩ : ∃ o, h₆.get? I2 = some o := ⟨_, hit₆⟩
        have N₆' : News g cenv.locals h₆ ((I2, oi2) :: (I, oI') :: (D, LCg.lst zs) :: nw') := News.one he2 z2.2 N₆
        refine wpAny_assign_Name (wpAny_storeName_local hy F₆.ns (fun h₇ hn₇ hs₇ => ?_) (by simp [hk]))
        have F₇ := F₆.set hn₇ hs₇
        have N₇ := N₆'.set hs₇
        have hmy : (fun z => if z = y then some (Value.int (0 + (j : Int)) tu) else m₅ z) y = some (.int j tu) := by simp
        have hmx7 : (fun z => if z = y then some (Value.int (0 + (j : Int)) tu) else m₅ z) x = some v := by simp [hxy, hm₅]
        generalize (fun z => if z = y then some (Value.int (0 + (j : Int)) tu) else m₅ z) = m₇ at F₇ hmy hmx7
        have stKeep : ∀ {h₈ : Heap} {zs' : List Value}, Fr g cenv.locals h₈ m₇ → h₈.get? I = some oI' → h₈.get? I2 = some oi2 → St (i + 1) h₈ ∧ IsRangeIter h₈ I2 (0 + ((j + 1 : Nat) : Int) * 1) (((4 : Nat) : Int) - ((j + 1 : Nat) : Int)) 1 := by
          intro h₈ zs' hf hI hI2'
          refine ⟨W.frame _ _ _ hst₆ fun b hb o e => ?_, ?_⟩
          · rcases hfp b hb with rfl | ⟨o', hg⟩
            · rw [(N₆ (b, oI') (.head _)).1] at e; cases e; exact hI
            · rw [F₆.keep _ _ hg] at e; cases e; exact hf.keep _ _ hg
          · have hit' : h₆.get? I2 = some _ := hit₆
            show h₈.get? I2 = some _
            rw [hI2', ← he2]; exact hit'
        clear hn₇
        refine wpAny_mono (test d v j tu m₇ _ h₇ _ _ hdm hR hj4 hmx7 hmy F₇ N₇) (fun ok s₈ q => ?_) fun _ _ e => e
        obtain ⟨rfl, h₈, tk₈, rfl, F₈, N₈⟩ := q.out
        have hrange : (List.range (j + 1)).filter (bb d) = (List.range j).filter (bb d) ++ (if bb d j then [j] else []) := by
          rw [List.range_succ, List.filter_append]
          cases hq : bb d j <;> simp [hq]
        cases hb : bb d j with
        | true =>
          simp only [if_true]
          refine wpAny_mono (turn d v j tu m₇ _ h₈ _ _ hdm hR hj4 hb hmx7 hmy F₈ N₈) (fun yv s₉ q => ?_) fun _ _ e => e
          obtain ⟨h₉, tk₉, fresh, rfl, F₉, N₉, off₉, hpp⟩ := q.out
          have zD := N₉ (D, LCg.lst zs) (List.mem_append_right _ (.tail _ (.tail _ (.head _))))
          refine append_at (hsz := by show zs.toArray.size ≤ sizeLine; rw [List.size_toArray, sizeLine_eq]; omega) zD.1 fun hA hsA hDA => ?_
          have FA := F₉.change hsA zD.2.1 zD.2.2
          have offf : ∀ p ∈ fresh, p.1 ≠ I ∧ p.1 ≠ D ∧ p.1 ≠ I2 := fun p hp => ⟨off₉ p hp (I, oI') (.tail _ (.head _)), off₉ p hp (D, LCg.lst zs) (.tail _ (.tail _ (.head _))), off₉ p hp (I2, oi2) (.head _)⟩
          have eI2 := hsA.extBut _ _ (Ne.symm hne2D) (N₉ (I2, oi2) (List.mem_append_right _ (.head _))).1
          have eI := hsA.extBut _ _ hID (N₉ (I, oI') (List.mem_append_right _ (.tail _ (.head _)))).1
          obtain ⟨st1, st2⟩ := stKeep (zs' := zs) FA eI eI2
          refine ⟨5 - (j + 1), by omega, hA, tk₉, j + 1, zs ++ [yv], m₇, oi2, fresh ++ nw', rfl, by omega, rfl, by simp; omega, st2, st1, FA, hmx7, ?_, ?_, ?_⟩
          · intro p hp
            rcases List.mem_cons.mp hp with rfl | hp
            · exact ⟨eI2, z2.2⟩
            · rcases List.mem_cons.mp hp with rfl | hp
              · exact ⟨eI, zI.2⟩
              · rcases List.mem_cons.mp hp with rfl | hp
                · exact ⟨hDA.trans (congrArg some (LCg.lst_snoc zs yv)), zD.2⟩
                · rcases List.mem_append.mp hp with hp | hp
                  · have z := N₉ p (List.mem_append_left _ hp)
                    exact ⟨hsA.extBut _ _ (offf p hp).2.1 z.1, z.2⟩
                  · have z := N₉ p (List.mem_append_right _ (.tail _ (.tail _ (.tail _ hp))))
                    exact ⟨hsA.extBut _ _ (off₅ p hp).2.1 z.1, z.2⟩
          · intro p hp
            rcases List.mem_append.mp hp with hp | hp
            · exact offf p hp
            · exact off₅ p hp
          · rw [hrange, hb, if_pos rfl, List.map_append, ← List.append_assoc]
            exact (hall₅.mono fun a b _ h => mono _ _ _ _ h fun p hp => List.mem_append_right _ hp).snoc (mono _ _ _ _ hpp fun p hp => List.mem_append_left _ hp)
        | false =>
          simp only [Bool.false_eq_true, if_false]
          obtain ⟨st1, st2⟩ := stKeep (zs' := zs) F₈ (N₈ (I, oI') (.tail _ (.head _))).1 (N₈ (I2, oi2) (.head _)).1
          refine ⟨5 - (j + 1), by omega, h₈, tk₈, j + 1, zs, m₇, oi2, nw', rfl, by omega, rfl, by omega, st2, st1, F₈, hmx7, N₈, off₅, ?_⟩
          rw [hrange, hb]
          simpa using hall₅
      · obtain rfl : j = 4 := by omega
        refine W2.done _ _ _ hit fun h₆ tk₆ hk₆ => ?_
        obtain ⟨F₆, N₆, hst₆⟩ := stay2 hk₆
        refine ⟨n + 1 - (i + 1), by omega, h₆, tk₆, i + 1, zs, m₅, oI', nw', rfl, hlt, rfl, by omega, hst₆, F₆, N₆, fun p hp => ⟨(off₅ p hp).1, (off₅ p hp).2.1⟩, ?_⟩
        rw [List.take_add_one, hd]
        simpa [pairsOf] using hall₅
    exact compStart1 (inner _ rfl) (W2.self 0 _ _ _ hSt2 (inner _ rfl))
  · obtain rfl : i = n := Nat.le_antisymm hi (Nat.not_lt.mp hlt)
    refine W.done _ _ _ hst' fun h₁ tk₁ hk₁ => ?_
    refine fin h₁ tk₁ ys nw m' (hFr1 hk₁) ?_ (fun p hp => (off2 p hp).2) ?_
    · intro p hp
      have z := N' p (.tail _ hp)
      refine ⟨hk₁ _ _ ?_ z.1, z.2⟩
      rcases List.mem_cons.mp hp with rfl | hp
      · simpa using Ne.symm hID
      · simpa using (off2 p hp).1
    · rw [← hds, List.take_length] at hall; exact hall
end
end Mine
end PartC4

section PartC5
open PySem PySem.W PyProof.Rows PySem.Calls
namespace Mine
section
variable {prog : Program} {w : World} {A : Around} {E : Value → Shared → Prop} {s : Shared} {env : Env}
structure Turn2 {α : Type} (prog : Program) (w : World) (A : Around) (cenv : Env) (C : Addr) (elt i2 ct : Expr) (x y : Str) (s₁ : Shared) (R : α → Value → Prop) (PP : α × Nat → Value → List (Addr × Obj) → Prop) (bb : α → Nat → Bool) (ds : List α) : Prop where
  iter2 : ∀ m' nw H tk E', Fr s₁.heap C H m' → News s₁.heap C H nw → wpAny (model prog w) A (eval i2 cenv) (fun xv s' => Stop (RangeR { s₁ with heap := H, toks := tk } s₁.heap C m' nw xv s')) E' { s₁ with heap := H, toks := tk }
  test : ∀ d v (j : Nat) t m' nw H tk E', d ∈ ds → R d v → j < 4 → m' x = some v → m' y = some (.int j t) → Fr s₁.heap C H m' → News s₁.heap C H nw →
      wpAny (model prog w) A (isTrue ct cenv (eval ct cenv)) (fun ok s' => Stop (TestR (bb d j) { s₁ with heap := H, toks := tk } s₁.heap C m' nw ok s')) E' { s₁ with heap := H, toks := tk }
  turn : ∀ d v (j : Nat) t m' nw H tk E', d ∈ ds → R d v → j < 4 → bb d j = true → m' x = some v → m' y = some (.int j t) → Fr s₁.heap C H m' → News s₁.heap C H nw →
      wpAny (model prog w) A (eval elt cenv) (EltPost s₁.heap C m' { s₁ with heap := H, toks := tk } nw (PP (d, j))) E' { s₁ with heap := H, toks := tk }

inductive PreE2 {α : Type} (prog : Program) (w : World) (A : Around) (env : Env) (elt i2 ct : Expr) (x y : Str) (scope : Scope) (cl : List (Str × Addr)) (PP : α × Nat → Value → List (Addr × Obj) → Prop) (Q : Value → Shared → Prop) (xv : Value) (s₁ : Shared) : Prop
  | mk (ds : List α) (R : α → Value → Prop) (bb : α → Nat → Bool) : Src s₁.heap R ds xv → ds.length ≤ 1000 → (∀ C, Turn2 prog w A (compEnvC scope cl C env) C elt i2 ct x y s₁ R PP bb ds) → FinQ PP (pairsOf bb ds) s₁ Q → PreE2 prog w A env elt i2 ct x y scope cl PP Q xv s₁
theorem comp2_E {α : Type} {elt i1 i2 ct : Expr} {x y : Str} {px py : Pos} {scope : Scope} {cl : List (Str × Addr)} {pos : Pos} {Q : Value → Shared → Prop} (PP : α × Nat → Value → List (Addr × Obj) → Prop)
    (mono : ∀ d y l l', PP d y l → (∀ p ∈ l, p ∈ l') → PP d y l')
    (h : wpAny (model prog w) A (eval i1 env) (fun xv s₁ => Stop (PreE2 prog w A env elt i2 ct x y scope cl PP Q xv s₁)) E s)
    (hxy : x ≠ y := by decide)
    (hclos : closureFor scope env = pure cl := by with_unfolding_all rfl) (ha1 : ∀ n, cellsFrom n scope.names cl = cl := by intro _; rfl) (ha2 : ∀ h, pushCells h scope.names = h := by intro _; rfl) (hkind : scope.kind = .function := by rfl)
    (hnames : ∀ y ∈ scope.names, y.2 = .local → scope.names.lookup y.1 = some .local := by decide) (hx : scope.names.lookup x = some .local := by rfl) (hy : scope.names.lookup y = some .local := by rfl) (hh : A.handled = none := by rfl)
    (hs : ∀ x, foldedSetIterable i1 env x = pure x := by intro _; rfl) (hs2 : ∀ cenv x, foldedSetIterable i2 cenv x = pure x := by intro _ _; rfl) :
    wpAny (model prog w) A (eval (.ListComp elt [⟨.Name x px, i1, [], 0⟩, ⟨.Name y py, i2, [ct], 0⟩] scope pos) env) Q E s := by
  rw [eval_ListComp]
  refine wpAny_comprehension_free (use := none) rfl hs hclos hkind hnames (wpAny_mono h (fun xv s₁ h₁ => ?_) fun _ _ e => e)
  obtain ⟨ds, R, bb, S, hlen, T, fin⟩ := h₁.out
  refine src_iter hh S fun I s₂ fp n P St _ hs2' W hfp hIo hsz hds hP hst hg hgI => ?_
  obtain ⟨h', rfl⟩ := hs2'
  obtain ⟨oI, heI⟩ := hIo _ _ hst
  have hIlt : @LT.lt Nat instLTNat I h'.objs.size := Heap.lt_size heI
  refine wpAny_newObj_type (newEnvA ?_)
  dsimp only
  rw [ha2]
  generalize hH2 : h'.push { cls := .type "list", dict := none, data := .seq ([] : List Value).toArray } = H2
  have hC : H2.objs.size = h'.objs.size + 1 := by rw [← hH2, Heap.size_push]
  rw [ha1]
  have hnew : (H2.push { cls := .type "dict", data := .dict #[] }).Ns H2.objs.size (fun _ => none) := Heap.Ns.new H2 (.type "dict")
  have old : Ext h' (H2.push { cls := .type "dict", data := .dict #[] }) := fun b o e => Heap.get?_push_of_some _ (hH2 ▸ Heap.get?_push_of_some _ e)
  have hD : (H2.push { cls := .type "dict", data := .dict #[] }).get? h'.objs.size = some (LCg.lst []) := Heap.get?_push_of_some _ (hH2 ▸ Heap.get?_push_size _ rfl)
  have hst₁ : St 0 (H2.push { cls := .type "dict", data := .dict #[] }) := W.frame _ _ _ hst fun b _ o e => old b o e
  have hgl : @LE.le Nat instLENat s₁.heap.objs.size I := hgI
  have F : Fr s₁.heap H2.objs.size (H2.push { cls := .type "dict", data := .dict #[] }) (fun _ => none) := ⟨hnew, fun b o e => old b o (hg b o e), by show @LE.le Nat instLENat s₁.heap.objs.size H2.objs.size; omega⟩
  have N : News s₁.heap H2.objs.size (H2.push { cls := .type "dict", data := .dict #[] }) [(I, oI), (h'.objs.size, LCg.lst [])] := by
    intro p hp
    rcases List.mem_cons.mp hp with rfl | hp
    · exact ⟨old _ _ heI, Nat.ne_of_lt (by show @LT.lt Nat instLTNat I H2.objs.size; omega), mem_none hgI⟩
    · rw [List.mem_singleton.mp hp]
      exact ⟨hD, Nat.ne_of_lt (by show @LT.lt Nat instLTNat h'.objs.size H2.objs.size; omega), mem_none (by show @LE.le Nat instLENat s₁.heap.objs.size h'.objs.size; omega)⟩
  have loop : ∀ s₃ : Shared, s₃ = { s₁ with heap := H2.push { cls := .type "dict", data := .dict #[] } } →
      codeAny (model prog w) A (.compLoop (.ListComp elt [⟨.Name x px, i1, [], 0⟩, ⟨.Name y py, i2, [ct], 0⟩] scope pos) 0 (.ref I) (.ref h'.objs.size) (compEnvC scope cl H2.objs.size env)) (compPost (model prog w) A E none Q (.ref h'.objs.size) H2.objs.size) s₃ := by
    rintro s₃ rfl
    refine core2 (s := { s₁ with heap := H2.push { cls := .type "dict", data := .dict #[] } }) (bb := bb) (hs2 _) hh W hfp hIo (by omega) rfl (by show scope.kind = _; exact hkind) (lookup_relabel_local hx) (lookup_relabel_local hy) hxy hds hP mono hst₁ F N (Nat.ne_of_lt hIlt) (T _).iter2 (T _).test (T _).turn ?_
    intro h₅ tk ys nw m' F' N' off hall
    exact ⟨m', F'.ns, fun h'' hs'' => fin _ h'' tk ys nw (Mine.Fr.sameC F' hs'') (made_of N' hs'') off hall⟩
  exact codeAny_compStart_list (loop _ rfl) (W.self 0 _ _ _ hst₁ (loop _ rfl))
end
end Mine
end PartC5

section PartM2
open PySem
namespace Mine
/-- the law's ways, as it builds them -/
def okAt (r : List Bool) (w : List Int) (j : Nat) : Bool := r.getD j false && !(w.any (· == (j : Int)))
def waysStep (W : List (List Int)) (r : List Bool) : List (List Int) := W ++ (pairsOf (okAt r) W).map fun p => p.1 ++ [(p.2 : Int)]
def waysOf (rows : List (List Bool)) : List (List Int) := rows.foldl waysStep [[]]
def sizesOf (rows : List (List Bool)) : List Int := (waysOf rows).map fun w => (w.length : Int)
def answer (rows : List (List Bool)) : List Int := [4, 3, 2, 1, 0].map fun k => ((sizesOf rows).count k : Int)
theorem pairsOf_len {α : Type} (bb : α → Nat → Bool) (ds : List α) : (pairsOf bb ds).length ≤ 4 * ds.length := by
  induction ds with
  | nil => simp [pairsOf]
  | cons d ds ih =>
    simp only [pairsOf, List.flatMap_cons, List.length_append, List.length_map, List.length_cons] at ih ⊢
    have := List.length_filter_le (bb d) (List.range 4)
    simp only [List.length_range] at this
    omega
theorem waysStep_len (W : List (List Int)) (r : List Bool) : (waysStep W r).length ≤ 5 * W.length := by
  have := pairsOf_len (okAt r) W
  simp only [waysStep, List.length_append, List.length_map]; omega
theorem waysOf_len (rows : List (List Bool)) : (waysOf rows).length ≤ 5 ^ rows.length := by
  have : ∀ (rows : List (List Bool)) (W : List (List Int)), (rows.foldl waysStep W).length ≤ 5 ^ rows.length * W.length := by
    intro rows
    induction rows with
    | nil => intro W; simp
    | cons r rows ih =>
      intro W
      have h1 := ih (waysStep W r)
      have h2 := waysStep_len W r
      simp only [List.foldl_cons, List.length_cons, Nat.pow_succ]
      calc _ ≤ _ := h1
        _ ≤ 5 ^ rows.length * (5 * W.length) := Nat.mul_le_mul_left _ h2
        _ = _ := by rw [Nat.mul_assoc]
  have h := this rows [[]]
  simp only [List.length_singleton, Nat.mul_one] at h
  exact h
theorem waysOf_snoc (rows : List (List Bool)) (r : List Bool) : waysOf (rows ++ [r]) = waysStep (waysOf rows) r := by simp [waysOf]
theorem waysOf_take {rows : List (List Bool)} {i : Nat} {r : List Bool} (h : rows[i]? = some r) : waysOf (rows.take (i + 1)) = waysStep (waysOf (rows.take i)) r := by
  rw [List.take_add_one, h]; exact waysOf_snoc _ _
theorem way_len : ∀ (rows : List (List Bool)), ∀ w ∈ waysOf rows, w.length ≤ rows.length := by
  have : ∀ (rows : List (List Bool)) (W : List (List Int)) (k : Nat), (∀ w ∈ W, w.length ≤ k) → ∀ w ∈ rows.foldl waysStep W, w.length ≤ k + rows.length := by
    intro rows
    induction rows with
    | nil => intro W k h; simpa using h
    | cons r rows ih =>
      intro W k h w hw
      have := ih (waysStep W r) (k + 1) ?_ w hw
      · simp only [List.length_cons]; omega
      · intro u hu
        simp only [waysStep, List.mem_append, List.mem_map] at hu
        rcases hu with hu | ⟨p, hp, rfl⟩
        · have := h u hu; omega
        · simp only [pairsOf, List.mem_flatMap, List.mem_map] at hp
          obtain ⟨d, hd, j, _, rfl⟩ := hp
          have := h d hd
          simp; omega
  intro rows w hw
  have := this rows [[]] 0 (by simp) w hw
  omega
end Mine
end PartM2

section PartC6
open PySem PySem.W PyProof.Rows PySem.Calls
namespace Mine
inductive CellR (s₁ : Shared) (g : Heap) (L I c : Addr) (oI oc : Obj) (J : Nat → (Str → Option Value) → List (Addr × Obj) → Prop) (i : Nat) (f : Flow) (s' : Shared) : Prop
  | mk (e : f = .next) (h' : Heap) (tk' : Nat) (m' : Str → Option Value) (nw' : List (Addr × Obj)) : s' = { s₁ with heap := h', toks := tk' } → Fr g L h' m' → News g L h' ((I, oI) :: (c, oc) :: nw') → (∀ p ∈ nw', p.1 ≠ c ∧ p.1 ≠ I) → J (i + 1) m' nw' → CellR s₁ g L I c oI oc J i f s'
inductive PreCell (α : Type) (prog : Program) (w : World) (A : Around) (env : Env) (x : Str) (body : List Stmt) (g : Heap) (c : Addr) (J : Nat → (Str → Option Value) → List (Addr × Obj) → Prop) (Q : Flow → Shared → Prop) (xv : Value) (s₁ : Shared) : Prop
  | mk (ds : List α) (R : α → Value → Prop) (ax : Addr) (its : List Value) (m : Str → Option Value) (oc : Obj) (nw : List (Addr × Obj)) (o0 : Option Value) : xv = .ref ax → g.IsList ax its.toArray → All2 R ds its → Fr g env.locals s₁.heap m → News g env.locals s₁.heap ((c, oc) :: nw) → oc.data = .cell o0 → (∀ p ∈ nw, p.1 ≠ c) → J 0 m nw →
      (∀ i d v m nw oc H tk E', ds[i]? = some d → R d v → oc.data = .cell (some v) → Fr g env.locals H m → News g env.locals H ((c, oc) :: nw) → (∀ p ∈ nw, p.1 ≠ c) → J i m nw → ∀ I oI, H.get? I = some oI → g.get? I = none → I ≠ c → I ≠ env.locals → (∀ p ∈ nw, p.1 ≠ I) →
        wpAny (model prog w) A (execs body env) (fun f s' => Stop (CellR s₁ g env.locals I c oI oc J i f s')) E' { s₁ with heap := H, toks := tk }) →
      (∀ m nw oc H tk o0, Fr g env.locals H m → News g env.locals H ((c, oc) :: nw) → oc.data = .cell o0 → (∀ p ∈ nw, p.1 ≠ c) → J ds.length m nw → Q .next { s₁ with heap := H, toks := tk }) → PreCell α prog w A env x body g c J Q xv s₁
inductive InvCell (s₁ : Shared) (its : List Value) (g : Heap) (L I ax c : Addr) (J : Nat → (Str → Option Value) → List (Addr × Obj) → Prop) (k : Nat) (s' : Shared) : Prop
  | mk (h' : Heap) (tk i : Nat) (m' : Str → Option Value) (nw' : List (Addr × Obj)) (oc' : Obj) (o0' : Option Value) : s' = { s₁ with heap := h', toks := tk } → i ≤ its.length → k = its.length + 1 - i → h'.IsListIter I ax i → Fr g L h' m' → News g L h' ((c, oc') :: nw') → oc'.data = .cell o0' →
      (∀ p ∈ nw', p.1 ≠ c ∧ p.1 ≠ I) → J i m' nw' → InvCell s₁ its g L I ax c J k s'
section
variable {prog : Program} {w : World} {A : Around} {E : Value → Shared → Prop} {s : Shared} {env : Env}
/-- a for over a list whose target is a cell; J is what holds between the turns -/
theorem for_cell {α : Type} {x : Str} {px pos : Pos} {iter : Expr} {body : List Stmt} {Q : Flow → Shared → Prop} {g : Heap} {c : Addr}
    (J : Nat → (Str → Option Value) → List (Addr × Obj) → Prop)
    (h : wpAny (model prog w) A (eval iter env) (fun xv s₁ => Stop (PreCell α prog w A env x body g c J Q xv s₁)) E s)
    (hk : env.scope.kind = .function) (hx : env.kindOf x = some .cell) (hc : env.cells.lookup x = some c) (hh : A.handled = none)
    (hs : ∀ x, foldedSetIterable iter env x = pure x := by intro _; rfl) :
    wpAny (model prog w) A (exec (.For (.Name x px) iter body [] pos) env) Q E s := by
  refine wpAny_For (wpAny_mono h (fun xv s₁ h₁ => ?_) fun _ _ e => e) hs
  obtain ⟨ds, R, ax, its, m, oc, nw, o0, rfl, hl, hR, F, N, hoc, off, hJ, turn, fin⟩ := h₁.out
  have hl1 := hl.at fun o e => F.keep _ _ e
  have hax : @LT.lt Nat instLTNat ax s₁.heap.objs.size := by obtain ⟨_, e, _⟩ := hl1; exact Heap.lt_size e
  have hag : ∃ o, g.get? ax = some o := by obtain ⟨o, e, _⟩ := hl; exact ⟨o, e⟩
  refine wpAny_pyIter_list hl1 ?_
  have hIg : g.get? s₁.heap.objs.size = none := by
    cases q : g.get? s₁.heap.objs.size with
    | none => rfl
    | some o => exact absurd (Heap.lt_size (F.keep _ _ q)) (Nat.lt_irrefl _)
  have hIL : s₁.heap.objs.size ≠ env.locals := Ne.symm (Nat.ne_of_lt (by obtain ⟨o, _, _, e, _⟩ := F.ns; exact Heap.lt_size e))
  have hIn : ∀ p ∈ (c, oc) :: nw, p.1 ≠ s₁.heap.objs.size := fun p hp => Nat.ne_of_lt (Heap.lt_size (N p hp).1)
  have hpush : Ext s₁.heap (s₁.heap.push { cls := .type "list_iterator", data := .fields #[.ref ax, .int 0 0] }) := fun b o e => Heap.get?_push_of_some _ e
  have hit : (s₁.heap.push { cls := .type "list_iterator", data := .fields #[.ref ax, .int 0 0] }).IsListIter s₁.heap.objs.size ax 0 := ⟨_, Heap.get?_push_size _ rfl, rfl, rfl⟩
  have hcg : g.get? c = none := (N (c, oc) (.head _)).2.2
  have hcL : c ≠ env.locals := (N (c, oc) (.head _)).2.1
  have F1 := F.keeps hpush
  have N1 := N.grown hpush
  have hl2 := hl1.at fun o e => hpush _ _ e
  generalize s₁.heap.push { cls := .type "list_iterator", data := .fields #[.ref ax, .int 0 0] } = h₁ at *
  generalize s₁.heap.objs.size = I at *
  have hcI : c ≠ I := hIn (c, oc) (.head _)
  have haxI : ax ≠ I := fun q => by obtain ⟨o, e⟩ := hag; rw [q, hIg] at e; cases e
  refine codeAny_forLoop
    (fun k s' => InvCell s₁ its g env.locals I ax c J k s') ?_ (its.length + 1)
    ⟨h₁, s₁.toks, 0, m, nw, oc, o0, rfl, Nat.zero_le _, rfl, hit, F1, N1, hoc, fun p hp => ⟨off p hp, hIn p (.tail _ hp)⟩, hJ⟩
  rintro k s' ⟨h', tk, i, m', nw', oc', o0', rfl, hi, rfl, hit', F', N', hoc', off', hJ'⟩
  have hl' : h'.IsList ax its.toArray := hl.at fun o e => F'.keep _ _ e
  have stay : ∀ {h₂ : Heap}, (∀ b o, b ≠ I → h'.get? b = some o → h₂.get? b = some o) → Fr g env.locals h₂ m' ∧ News g env.locals h₂ ((c, oc') :: nw') := fun hk =>
    ⟨⟨F'.ns.at' fun o e => hk _ o (Ne.symm hIL) e, fun b o e => hk b o (fun q => by rw [q, hIg] at e; cases e) (F'.keep b o e), F'.above⟩, fun p hp => ⟨hk _ _ (by
      rcases List.mem_cons.mp hp with rfl | hp
      · exact hcI
      · exact (off' p hp).2) (N' p hp).1, (N' p hp).2⟩⟩
  by_cases hlt : i < its.length
  · refine wpAny_pyNext_list_item hit' hl' (x := its[i]) (by simp [hlt]) fun h₂ hit₂ hs₂ => ?_
    obtain ⟨F₂, N₂⟩ := stay fun b o hb e => hs₂.extBut b o hb e
    have hN2 := N₂ (c, oc') (.head _)
    dsimp only
    refine wpAny_assign_Name (wpAny_storeName_cell hk hx hc ⟨oc', hN2.1, hoc'⟩ fun h₃ hv hs₃ => ?_)
    obtain ⟨oc3, ho3, hd3⟩ := hv
    have F₃ := F₂.change hs₃ hcL hcg
    have N₃ : News g env.locals h₃ ((c, oc3) :: nw') := by
      intro p hp
      rcases List.mem_cons.mp hp with rfl | hp
      · exact ⟨ho3, hcL, hcg⟩
      · have z := N₂ p (.tail _ hp)
        exact ⟨hs₃.extBut _ _ (off' p hp).1 z.1, z.2⟩
    obtain ⟨d, hd, hR'⟩ := hR.get (i := i) (b := its[i]) (by simp [hlt])
    have hit3 : h₃.IsListIter I ax (i + 1) := hit₂.extBut hs₃.extBut (Ne.symm hcI)
    obtain ⟨oI, heI, hIc, hId⟩ := hit3
    refine wpAny_mono (turn i d its[i] m' nw' oc3 h₃ _ _ hd hR' hd3 F₃ N₃ (fun p hp => (off' p hp).1) hJ' I oI heI hIg (Ne.symm hcI) hIL fun p hp => (off' p hp).2) (fun f s₄ q => ?_) fun _ _ e => e
    obtain ⟨rfl, h₄, tk₄, m₄, nw₄, rfl, F₄, N₄, off₄, hJ₄⟩ := q.out
    exact ⟨its.length + 1 - (i + 1), by omega, h₄, tk₄, i + 1, m₄, nw₄, oc3, some its[i], rfl, hlt, rfl, ⟨oI, (N₄ _ (.head _)).1, hIc, hId⟩, F₄, cb_drop N₄ (by intro p hp; exact .tail _ hp), hd3, off₄, hJ₄⟩
  · obtain rfl : i = its.length := Nat.le_antisymm hi (Nat.not_lt.mp hlt)
    refine wpAny_pyNext_list_end hh hit' hl' (by simp) fun h₂ hk₂ => wpAny_execs_nil ?_
    obtain ⟨F₂, N₂⟩ := stay fun b o hb e => hk₂ b o hb e
    rw [← hR.length] at hJ'
    exact fin m' nw' oc' h₂ tk o0' F₂ N₂ hoc' (fun p hp => (off' p hp).1) hJ'
section
variable {M : Model} {g : Heap} {C : Addr} {m' : Str → Option Value} {scope : Scope} {cl : List (Str × Addr)} {x : Str} {pos : Pos} {v : Value} {Q : Value → Shared → Prop} {c : Addr}
theorem nameCL (F : Fr g C s.heap m') (hx : m' x = some v) (h : Q v s)
    (hk : (compEnvC scope cl C env).scope.kind = .function := by rfl) (hl : (compEnvC scope cl C env).kindOf x = some .local := by rfl) (hd : (x == ("__debug__" : Str)) = false := by decide) :
    wpAny M A (eval (.Name x pos) (compEnvC scope cl C env)) Q E s := wpAny_Name (wpAny_loadName_local hk hl F.ns hx h) hd
theorem nameCC (F : Fr g C s.heap m') (hv : g.IsCell c (some v)) (hc : cl.lookup x = some c) (h : Q v s)
    (hk : (compEnvC scope cl C env).scope.kind = .function := by rfl) (hl : (compEnvC scope cl C env).kindOf x = some .cell := by rfl) (hd : (x == ("__debug__" : Str)) = false := by decide) :
    wpAny M A (eval (.Name x pos) (compEnvC scope cl C env)) Q E s := wpAny_Name (wpAny_loadName_cell hk hl hc (hv.keeps F.keep) h) hd
end
end
end Mine
end PartC6

section PartF12
open PySem PySem.W PyProof.Rows PySem.Calls
namespace Mine
theorem offF12 : True := by w_top off; trivial
variable {prog : Program} {w : World} {dp un : Nat} {gd : Option (List Code)} {fr : Option (List Env)} {s : Shared} {p : Program} {loose : List Str} {mean : ExcName → Option Value} {mg mb : Str → Option Value} {h₀ : Heap} {Q : Value → Shared → Prop} {E : Value → Shared → Prop}
section
variable {A : Around}
theorem allLt_mem {d : Nat} : ∀ {l : List (Addr × Obj)}, AllLt d l → ∀ p ∈ l, @LT.lt Nat _ p.1 d
  | [], _, _, h => nomatch h
  | q :: l, x, p, h => by
    rcases List.mem_cons.mp h with rfl | h
    · exact x.1
    · exact allLt_mem x.2 p h
theorem addL {g : Heap} {C l b : Addr} {m : Str → Option Value} {news : List (Addr × Obj)} {vs ws : List Value} (F : Fr g C s.heap m) (N : News g C s.heap news) (hl : s.heap.IsList l vs.toArray) (hb : s.heap.IsList b ws.toArray)
    (h : ∀ D h', Fr g C h' m → News g C h' ((D, lst (vs ++ ws) 0) :: news) → (∀ p ∈ news, p.1 ≠ D) → Q (.ref D) { s with heap := h' })
    (hsz : vs.length + ws.length ≤ sizeLine) : wpAny (model prog w) A (binaryOp .Add (.ref l) (.ref b)) Q E s :=
  add_lists (hsz := hsz) F N hl hb fun h' F' N' => h _ h' F' N' (fun p hp => Nat.ne_of_lt (Heap.lt_size (N p hp).1))
theorem addI {g : Heap} {C l b : Addr} {m : Str → Option Value} {news : List (Addr × Obj)} {vs ws : List Value} {ns ms : List Int} (F : Fr g C s.heap m) (N : News g C s.heap news) (hl : s.heap.IsList l vs.toArray) (hb : s.heap.IsList b ws.toArray)
    (hi : IntsAre vs ns) (hj : IntsAre ws ms)
    (h : ∀ D h', Fr g C h' m → News g C h' ((D, lst (vs ++ ws) 0) :: news) → (∀ p ∈ news, p.1 ≠ D) → IntsAre (vs ++ ws) (ns ++ ms) → Q (.ref D) { s with heap := h' })
    (hsz : ns.length + ms.length ≤ sizeLine) : wpAny (model prog w) A (binaryOp .Add (.ref l) (.ref b)) Q E s :=
  add_lists_ints (hsz := hsz) F N hl hb hi hj fun h' F' N' hI => h _ h' F' N' (fun p hp => Nat.ne_of_lt (Heap.lt_size (N p hp).1)) hI
theorem itemB {value slice : PySem.Expr} {a : Addr} {vs : List Value} {k : Int} {u : Tok} {v : Value}
    (hl : s.heap.IsList a vs.toArray) (h0 : 0 ≤ k) (hhi : k < 2 ^ 63) (hx : vs[k.toNat]? = some v) (h : Q v s)
    (hs : subscripted slice false (.ref a) (.int k u) = operate [.ref a, .int k u] (getItem (.ref a) (.int k u)) := by with_unfolding_all rfl) (hg : ∀ r, letTemporaryGo value (.ref a) r = pure () := by intro _; with_unfolding_all rfl) :
    wpAny (model prog w) A (subscriptTail value slice (.ref a) (.int k u)) Q E s :=
  tail_any hl.typeIs slot_list_getitem.lookup (wpAny_getItem_list hl h0 hhi (by simpa using hx) h) hs
end
inductive WaysJ (L : Addr) (rows : List (List Bool)) (i : Nat) (m : Str → Option Value) (nw : List (Addr × Obj)) : Prop
  | mk (wa : Addr) (ws : List Value) (e : Nat) (osz : Obj) : m (Str.ofString "ways") = some (.ref wa) → (wa, lst ws e) ∈ nw → (L + 1 + 1, osz) ∈ nw → osz.data = .cell none →
      All2 (fun (w : List Int) v => ∃ a vs e, v = Value.ref a ∧ (a, lst vs e) ∈ nw ∧ IntsAre vs w) (waysOf (rows.take i)) ws → WaysJ L rows i m nw
set_option maxRecDepth 100000 in
set_option maxHeartbeats 8000000 in
set_option pp.deepTerms false in
set_option pp.deepTerms.threshold 8 in
theorem ways_spec {rows : List (List Bool)} {l : Addr} {its : List Value} (X : (KK w.params).In s.heap) (T : Top p loose mean mg mb s.heap) (hroom : dp + 5 < recursionLimit) (hun : un + 30 < cLine)
    (hl : s.heap.IsList l its.toArray) (hR : All2 (fun r v => ∃ a, v = Value.ref a ∧ s.heap.IsList a (r.map Value.bool).toArray) rows its) (hlen : rows.length ≤ 4) (h4 : ∀ r ∈ rows, r.length = 4)
    (hret : ∀ h' tk' r vs e, Ext s.heap h' → s.heap.get? r = none → h'.get? r = some (lst vs e) → IntsAre vs (answer rows) → Q (.ref r) { s with heap := h', toks := tk' }) :
    wpAny (model prog w) (AA dp un gd fr) (call (.ref 85) [.ref l]) Q E s := by
  refine wpAny_call ?_
  refine enterC (g := s.heap) (news := []) (binds := [(Str.ofString "board", .ref l)]) (fun _ _ e => e) (Nat.le_refl _)
    (by intro p hp; simp at hp) T.nolimit (X _ _ (by k_is)) rfl (codeRec_of X (by k_is)) (by show dp < recursionLimit; omega) (BindsTo.of_eq rfl) rfl (by decide +kernel) ?_ rfl rfl rfl
  intro L h₁ tk cells F N Y _ hL hext
  k_cells Y
  simp only [List.append_nil] at N
  (try dsimp only)
  repeat' (first | ((with_reducible show wpAny _ _ (compareOp CmpOp.NotIn (Value.int _ _) (Value.ref _)) _ _ _); (k_dflt (refine notin_list_ints (by assumption) (by assumption) ?_))) | ((with_reducible show wpAny _ _ (call (Value.builtin "list.count") _) _ _ _); (k_dflt (refine count_list_ints (by assumption) (by assumption) ?_))) | ((with_reducible show wpAny _ _ (getMethod (Value.ref _) _ _) _ _ _); (k_dflt (refine getMethod_list_of PySem.F.slot_list_count PySem.F.type_list_count (by assumption) (by assumption) ?_))) | ((with_reducible show wpAny _ _ (call (Value.builtin "len") _) _ _ _); (k_dflt (refine PyProof.Rows.len_list (by assumption) (by simp; omega) ?_))) | ((with_reducible show wpAny _ _ (binaryOp Operator.Add (Value.ref _) (Value.ref _)) _ _ _); (k_dflt (refine addI (by assumption) (by assumption) (by assumption) (IsL.isList (News.get (by assumption) (.head _))) (by assumption) (by repeat' constructor) ?_ (by rw [sizeLine_eq]; simp; omega)); intro _ _ _ _ _ _)) | ((with_reducible show wpAny _ _ (subscriptTail _ _ _ _) _ _ _); (k_dflt (refine itemB (by assumption) (by omega) (by omega) (by assumption) ?_))) | ((with_reducible show wpAny _ _ (eval (PySem.Expr.Name _ _) _) _ _ _); (k_dflt (first | refine nameX_L (by assumption) (by assumption) ?_ | refine nameCL (by assumption) (by assumption) ?_ | refine nameCC (by assumption) (by assumption) rfl ?_))) | ((with_reducible show wpAny _ _ (eval (PySem.Expr.Name _ _) _) _ _ _); (k_dflt (refine ld (by assumption) (by assumption) ?_))) | ((with_reducible show wpAny _ _ (eval (PySem.Expr.ListComp _ _ _ _) _) _ _ _); (refine stop_of ?_)) | ((with_reducible show wpAny _ _ (exec (Stmt.For (PySem.Expr.Name _ _) (PySem.Expr.Name _ _) _ [] _) _) _ _ _); (refine stop_of ?_)) | ((with_reducible show wpAny _ _ (call (Value.ref _) _) _ _ _); (refine stop_of ?_)) | walk1 | (dsimp only; walk1) | fail "no step")
  refine ⟨?_⟩
  rename Fr _ _ _ _ => F9
  rename News _ _ _ _ => N9
  refine for_cell (α := List Bool) (g := s.heap) (c := L + 1) (J := WaysJ L rows) ?_ rfl rfl rfl rfl
  (try dsimp only)
  repeat' (first | ((with_reducible show wpAny _ _ (compareOp CmpOp.NotIn (Value.int _ _) (Value.ref _)) _ _ _); (k_dflt (refine notin_list_ints (by assumption) (by assumption) ?_))) | ((with_reducible show wpAny _ _ (call (Value.builtin "list.count") _) _ _ _); (k_dflt (refine count_list_ints (by assumption) (by assumption) ?_))) | ((with_reducible show wpAny _ _ (getMethod (Value.ref _) _ _) _ _ _); (k_dflt (refine getMethod_list_of PySem.F.slot_list_count PySem.F.type_list_count (by assumption) (by assumption) ?_))) | ((with_reducible show wpAny _ _ (call (Value.builtin "len") _) _ _ _); (k_dflt (refine PyProof.Rows.len_list (by assumption) (by simp; omega) ?_))) | ((with_reducible show wpAny _ _ (binaryOp Operator.Add (Value.ref _) (Value.ref _)) _ _ _); (k_dflt (refine addI (by assumption) (by assumption) (by assumption) (IsL.isList (News.get (by assumption) (.head _))) (by assumption) (by repeat' constructor) ?_ (by rw [sizeLine_eq]; simp; omega)); intro _ _ _ _ _ _)) | ((with_reducible show wpAny _ _ (subscriptTail _ _ _ _) _ _ _); (k_dflt (refine itemB (by assumption) (by omega) (by omega) (by assumption) ?_))) | ((with_reducible show wpAny _ _ (eval (PySem.Expr.Name _ _) _) _ _ _); (k_dflt (first | refine nameX_L (by assumption) (by assumption) ?_ | refine nameCL (by assumption) (by assumption) ?_ | refine nameCC (by assumption) (by assumption) rfl ?_))) | ((with_reducible show wpAny _ _ (eval (PySem.Expr.Name _ _) _) _ _ _); (k_dflt (refine ld (by assumption) (by assumption) ?_))) | ((with_reducible show wpAny _ _ (eval (PySem.Expr.ListComp _ _ _ _) _) _ _ _); (refine stop_of ?_)) | ((with_reducible show wpAny _ _ (exec (Stmt.For (PySem.Expr.Name _ _) (PySem.Expr.Name _ _) _ [] _) _) _ _ _); (refine stop_of ?_)) | ((with_reducible show wpAny _ _ (call (Value.ref _) _) _ _ _); (refine stop_of ?_)) | walk1 | (dsimp only; walk1) | fail "no step")
  rename_i oS oR dS dR la hA la1 lb hB lb1 hC
  refine ⟨⟨rows, _, l, its, _, oR, [(lb, W.listOf #[Value.ref la] 0), (la, W.listOf #[] 0), (L + 1 + 1, oS)], _, rfl, hl, hR, F9, ?n9, dR, ?off, ?j0, ?turn, ?fin⟩⟩
  case n9 => exact cb_drop N9 (by intro p hp; simp only [List.mem_cons, List.not_mem_nil, or_false] at hp ⊢; rcases hp with h | h | h | h <;> simp [h])
  case off =>
    simp only [List.forall_mem_cons]
    exact ⟨Nat.ne_of_gt (by omega), Nat.ne_of_gt (by omega), Nat.ne_of_gt (by omega), fun _ h => nomatch h⟩
  case j0 => exact ⟨lb, [.ref la], 0, oS, rfl, .head _, .tail _ (.tail _ (.head _)), dS, .cons ⟨la, [], 0, rfl, .tail _ (.head _), .nil⟩ .nil⟩
  case turn =>
    intro i d v m nw oc H tk E' hd hRv hoc F N off hJ I oI hI hIg hIc hIL hnI
    obtain ⟨ra, rfl, hra⟩ := hRv
    obtain ⟨wa, ws, e, osz, hm, hwa, hsz, hosz, hW⟩ := hJ
    have F : Fr s.heap L H m := F
    have N : News s.heap L H ((L + 1, oc) :: nw) := N
    have hIL : I ≠ L := hIL
    have N2 : News s.heap L H ((I, oI) :: (L + 1, oc) :: nw) := Mine.News.one hI ⟨hIL, hIg⟩ N
    clear F9 N9
    (try dsimp only)
    repeat' (first | ((with_reducible show wpAny _ _ (compareOp CmpOp.NotIn (Value.int _ _) (Value.ref _)) _ _ _); (k_dflt (refine notin_list_ints (by assumption) (by assumption) ?_))) | ((with_reducible show wpAny _ _ (call (Value.builtin "list.count") _) _ _ _); (k_dflt (refine count_list_ints (by assumption) (by assumption) ?_))) | ((with_reducible show wpAny _ _ (getMethod (Value.ref _) _ _) _ _ _); (k_dflt (refine getMethod_list_of PySem.F.slot_list_count PySem.F.type_list_count (by assumption) (by assumption) ?_))) | ((with_reducible show wpAny _ _ (call (Value.builtin "len") _) _ _ _); (k_dflt (refine PyProof.Rows.len_list (by assumption) (by simp; omega) ?_))) | ((with_reducible show wpAny _ _ (binaryOp Operator.Add (Value.ref _) (Value.ref _)) _ _ _); (k_dflt (refine addI (by assumption) (by assumption) (by assumption) (IsL.isList (News.get (by assumption) (.head _))) (by assumption) (by repeat' constructor) ?_ (by rw [sizeLine_eq]; simp; omega)); intro _ _ _ _ _ _)) | ((with_reducible show wpAny _ _ (subscriptTail _ _ _ _) _ _ _); (k_dflt (refine itemB (by assumption) (by omega) (by omega) (by assumption) ?_))) | ((with_reducible show wpAny _ _ (eval (PySem.Expr.Name _ _) _) _ _ _); (k_dflt (first | refine nameX_L (by assumption) (by assumption) ?_ | refine nameCL (by assumption) (by assumption) ?_ | refine nameCC (by assumption) (by assumption) rfl ?_))) | ((with_reducible show wpAny _ _ (eval (PySem.Expr.Name _ _) _) _ _ _); (k_dflt (refine ld (by assumption) (by assumption) ?_))) | ((with_reducible show wpAny _ _ (eval (PySem.Expr.ListComp _ _ _ _) _) _ _ _); (refine stop_of ?_)) | ((with_reducible show wpAny _ _ (exec (Stmt.For (PySem.Expr.Name _ _) (PySem.Expr.Name _ _) _ [] _) _) _ _ _); (refine stop_of ?_)) | ((with_reducible show wpAny _ _ (call (Value.ref _) _) _ _ _); (refine stop_of ?_)) | walk1 | (dsimp only; walk1) | fail "no step")
    refine ⟨?_⟩
    refine comp2_E (α := List Int) (fun p y l => ∃ a vs e, y = Value.ref a ∧ (a, lst vs e) ∈ l ∧ IntsAre vs (p.1 ++ [(p.2 : Int)])) ?mono ?_
    case mono => rintro p y l l' ⟨a, vs, e, h1, h2, h3⟩ k; exact ⟨a, vs, e, h1, k _ h2, h3⟩
    (try dsimp only)
    repeat' (first | ((with_reducible show wpAny _ _ (compareOp CmpOp.NotIn (Value.int _ _) (Value.ref _)) _ _ _); (k_dflt (refine notin_list_ints (by assumption) (by assumption) ?_))) | ((with_reducible show wpAny _ _ (call (Value.builtin "list.count") _) _ _ _); (k_dflt (refine count_list_ints (by assumption) (by assumption) ?_))) | ((with_reducible show wpAny _ _ (getMethod (Value.ref _) _ _) _ _ _); (k_dflt (refine getMethod_list_of PySem.F.slot_list_count PySem.F.type_list_count (by assumption) (by assumption) ?_))) | ((with_reducible show wpAny _ _ (call (Value.builtin "len") _) _ _ _); (k_dflt (refine PyProof.Rows.len_list (by assumption) (by simp; omega) ?_))) | ((with_reducible show wpAny _ _ (binaryOp Operator.Add (Value.ref _) (Value.ref _)) _ _ _); (k_dflt (refine addI (by assumption) (by assumption) (by assumption) (IsL.isList (News.get (by assumption) (.head _))) (by assumption) (by repeat' constructor) ?_ (by rw [sizeLine_eq]; simp; omega)); intro _ _ _ _ _ _)) | ((with_reducible show wpAny _ _ (subscriptTail _ _ _ _) _ _ _); (k_dflt (refine itemB (by assumption) (by omega) (by omega) (by assumption) ?_))) | ((with_reducible show wpAny _ _ (eval (PySem.Expr.Name _ _) _) _ _ _); (k_dflt (first | refine nameX_L (by assumption) (by assumption) ?_ | refine nameCL (by assumption) (by assumption) ?_ | refine nameCC (by assumption) (by assumption) rfl ?_))) | ((with_reducible show wpAny _ _ (eval (PySem.Expr.Name _ _) _) _ _ _); (k_dflt (refine ld (by assumption) (by assumption) ?_))) | ((with_reducible show wpAny _ _ (eval (PySem.Expr.ListComp _ _ _ _) _) _ _ _); (refine stop_of ?_)) | ((with_reducible show wpAny _ _ (exec (Stmt.For (PySem.Expr.Name _ _) (PySem.Expr.Name _ _) _ [] _) _) _ _ _); (refine stop_of ?_)) | ((with_reducible show wpAny _ _ (call (Value.ref _) _) _ _ _); (refine stop_of ?_)) | walk1 | (dsimp only; walk1) | fail "no step")
    have hi4 : i < 4 := by
      have := (List.getElem?_eq_some_iff.mp hd).1
      omega
    have hlen1 : (waysOf (rows.take i)).length ≤ 125 := by
      refine Nat.le_trans (waysOf_len _) ?_
      have : (rows.take i).length ≤ 3 := by simp; omega
      exact Nat.pow_le_pow_right (by decide) this
    have hd4 : d.length = 4 := h4 d (List.mem_of_getElem? hd)
    have XH := X.keeps F.keep
    have TH := T.keeps F.keep
    have hrow : H.IsCell (L + 1) (some (.ref ra)) := ⟨oc, N.get (.head _), hoc⟩
    have hraH : H.IsList ra (d.map Value.bool).toArray := hra.at fun o e => F.keep _ _ e
    refine ⟨⟨waysOf (rows.take i), (fun w v => ∃ a vs, v = Value.ref a ∧ H.IsList a (List.toArray vs) ∧ IntsAre vs w), okAt d, .list (its := ws) ⟨_, N.get (.tail _ hwa), rfl, _, rfl⟩ ?hr ?hz, by omega, ?turn2, ?finq⟩⟩
    case hr => exact hW.mono fun w v _ ⟨a, vs, e, h1, h2, h3⟩ => ⟨a, vs, h1, ⟨_, N.get (.tail _ h2), rfl, _, rfl⟩, h3⟩
    case hz => rw [← hW.length, sizeLine_eq]; omega
    case turn2 =>
      intro C
      refine ⟨?iter2, ?test, ?turn⟩
      case iter2 =>
        intro m' nw2 H2 tk2 E2 F2 N3
        clear F N N2
        (try dsimp only)
        repeat' (first | ((with_reducible show wpAny _ _ (compareOp CmpOp.NotIn (Value.int _ _) (Value.ref _)) _ _ _); (k_dflt (refine notin_list_ints (by assumption) (by assumption) ?_))) | ((with_reducible show wpAny _ _ (call (Value.builtin "list.count") _) _ _ _); (k_dflt (refine count_list_ints (by assumption) (by assumption) ?_))) | ((with_reducible show wpAny _ _ (getMethod (Value.ref _) _ _) _ _ _); (k_dflt (refine getMethod_list_of PySem.F.slot_list_count PySem.F.type_list_count (by assumption) (by assumption) ?_))) | ((with_reducible show wpAny _ _ (call (Value.builtin "len") _) _ _ _); (k_dflt (refine PyProof.Rows.len_list (by assumption) (by simp; omega) ?_))) | ((with_reducible show wpAny _ _ (binaryOp Operator.Add (Value.ref _) (Value.ref _)) _ _ _); (k_dflt (refine addI (by assumption) (by assumption) (by assumption) (IsL.isList (News.get (by assumption) (.head _))) (by assumption) (by repeat' constructor) ?_ (by rw [sizeLine_eq]; simp; omega)); intro _ _ _ _ _ _)) | ((with_reducible show wpAny _ _ (subscriptTail _ _ _ _) _ _ _); (k_dflt (refine itemB (by assumption) (by omega) (by omega) (by assumption) ?_))) | ((with_reducible show wpAny _ _ (eval (PySem.Expr.Name _ _) _) _ _ _); (k_dflt (first | refine nameX_L (by assumption) (by assumption) ?_ | refine nameCL (by assumption) (by assumption) ?_ | refine nameCC (by assumption) (by assumption) rfl ?_))) | ((with_reducible show wpAny _ _ (eval (PySem.Expr.Name _ _) _) _ _ _); (k_dflt (refine ld (by assumption) (by assumption) ?_))) | ((with_reducible show wpAny _ _ (eval (PySem.Expr.ListComp _ _ _ _) _) _ _ _); (refine stop_of ?_)) | ((with_reducible show wpAny _ _ (exec (Stmt.For (PySem.Expr.Name _ _) (PySem.Expr.Name _ _) _ [] _) _) _ _ _); (refine stop_of ?_)) | ((with_reducible show wpAny _ _ (call (Value.ref _) _) _ _ _); (refine stop_of ?_)) | walk1 | (dsimp only; walk1) | fail "no step")
        exact ⟨⟨_, _, _, _, _, _, rfl, rfl, by assumption, by assumption, by assumption⟩⟩
      case test =>
        intro d' v j t m' nw2 H2 tk2 E2 hd' hRv hj hx hy F2 N3
        obtain ⟨a, vs, rfl, hva, hvi⟩ := hRv
        have hva2 : H2.IsList a vs.toArray := hva.at fun o e => F2.keep _ _ e
        have hra2 : H2.IsList ra (d.map Value.bool).toArray := hraH.at fun o e => F2.keep _ _ e
        have hitem : (d.map Value.bool)[(j : Int).toNat]? = some (.bool (d.getD j false)) := by
          rw [Int.toNat_natCast, List.getElem?_map, List.getElem?_eq_getElem (by omega)]
          simp [List.getD, List.getElem?_eq_getElem (show j < d.length by omega)]
        clear F N N2
        (try dsimp only)
        repeat' (first | ((with_reducible show wpAny _ _ (compareOp CmpOp.NotIn (Value.int _ _) (Value.ref _)) _ _ _); (k_dflt (refine notin_list_ints (by assumption) (by assumption) ?_))) | ((with_reducible show wpAny _ _ (call (Value.builtin "list.count") _) _ _ _); (k_dflt (refine count_list_ints (by assumption) (by assumption) ?_))) | ((with_reducible show wpAny _ _ (getMethod (Value.ref _) _ _) _ _ _); (k_dflt (refine getMethod_list_of PySem.F.slot_list_count PySem.F.type_list_count (by assumption) (by assumption) ?_))) | ((with_reducible show wpAny _ _ (call (Value.builtin "len") _) _ _ _); (k_dflt (refine PyProof.Rows.len_list (by assumption) (by simp; omega) ?_))) | ((with_reducible show wpAny _ _ (binaryOp Operator.Add (Value.ref _) (Value.ref _)) _ _ _); (k_dflt (refine addI (by assumption) (by assumption) (by assumption) (IsL.isList (News.get (by assumption) (.head _))) (by assumption) (by repeat' constructor) ?_ (by rw [sizeLine_eq]; simp; omega)); intro _ _ _ _ _ _)) | ((with_reducible show wpAny _ _ (subscriptTail _ _ _ _) _ _ _); (k_dflt (refine itemB (by assumption) (by omega) (by omega) (by assumption) ?_))) | ((with_reducible show wpAny _ _ (eval (PySem.Expr.Name _ _) _) _ _ _); (k_dflt (first | refine nameX_L (by assumption) (by assumption) ?_ | refine nameCL (by assumption) (by assumption) ?_ | refine nameCC (by assumption) (by assumption) rfl ?_))) | ((with_reducible show wpAny _ _ (eval (PySem.Expr.Name _ _) _) _ _ _); (k_dflt (refine ld (by assumption) (by assumption) ?_))) | ((with_reducible show wpAny _ _ (eval (PySem.Expr.ListComp _ _ _ _) _) _ _ _); (refine stop_of ?_)) | ((with_reducible show wpAny _ _ (exec (Stmt.For (PySem.Expr.Name _ _) (PySem.Expr.Name _ _) _ [] _) _) _ _ _); (refine stop_of ?_)) | ((with_reducible show wpAny _ _ (call (Value.ref _) _) _ _ _); (refine stop_of ?_)) | walk1 | (dsimp only; walk1) | fail "no step")
        · rename_i e1 e2
          exact ⟨⟨by unfold okAt; rw [e1, e2]; rfl, _, _, rfl, F2, N3⟩⟩
        · rename_i e1 e2
          exact ⟨⟨by unfold okAt; rw [e1, e2]; rfl, _, _, rfl, F2, N3⟩⟩
        · rename_i e1
          exact ⟨⟨by unfold okAt; rw [e1]; rfl, _, _, rfl, F2, N3⟩⟩
      case turn =>
        intro d' v j t m' nw2 H2 tk2 E2 hd' hRv hj hb hx hy F2 N3
        obtain ⟨a, vs, rfl, hva, hvi⟩ := hRv
        have hva2 : H2.IsList a vs.toArray := hva.at fun o e => F2.keep _ _ e
        have hwl := way_len _ d' hd'
        have hwl2 : d'.length ≤ 4 := by simp at hwl; omega
        clear F N N2
        (try dsimp only)
        repeat' (first | ((with_reducible show wpAny _ _ (compareOp CmpOp.NotIn (Value.int _ _) (Value.ref _)) _ _ _); (k_dflt (refine notin_list_ints (by assumption) (by assumption) ?_))) | ((with_reducible show wpAny _ _ (call (Value.builtin "list.count") _) _ _ _); (k_dflt (refine count_list_ints (by assumption) (by assumption) ?_))) | ((with_reducible show wpAny _ _ (getMethod (Value.ref _) _ _) _ _ _); (k_dflt (refine getMethod_list_of PySem.F.slot_list_count PySem.F.type_list_count (by assumption) (by assumption) ?_))) | ((with_reducible show wpAny _ _ (call (Value.builtin "len") _) _ _ _); (k_dflt (refine PyProof.Rows.len_list (by assumption) (by simp; omega) ?_))) | ((with_reducible show wpAny _ _ (binaryOp Operator.Add (Value.ref _) (Value.ref _)) _ _ _); (k_dflt (refine addI (by assumption) (by assumption) (by assumption) (IsL.isList (News.get (by assumption) (.head _))) (by assumption) (by repeat' constructor) ?_ (by rw [sizeLine_eq]; simp; omega)); intro _ _ _ _ _ _)) | ((with_reducible show wpAny _ _ (subscriptTail _ _ _ _) _ _ _); (k_dflt (refine itemB (by assumption) (by omega) (by omega) (by assumption) ?_))) | ((with_reducible show wpAny _ _ (eval (PySem.Expr.Name _ _) _) _ _ _); (k_dflt (first | refine nameX_L (by assumption) (by assumption) ?_ | refine nameCL (by assumption) (by assumption) ?_ | refine nameCC (by assumption) (by assumption) rfl ?_))) | ((with_reducible show wpAny _ _ (eval (PySem.Expr.Name _ _) _) _ _ _); (k_dflt (refine ld (by assumption) (by assumption) ?_))) | ((with_reducible show wpAny _ _ (eval (PySem.Expr.ListComp _ _ _ _) _) _ _ _); (refine stop_of ?_)) | ((with_reducible show wpAny _ _ (exec (Stmt.For (PySem.Expr.Name _ _) (PySem.Expr.Name _ _) _ [] _) _) _ _ _); (refine stop_of ?_)) | ((with_reducible show wpAny _ _ (call (Value.ref _) _) _ _ _); (refine stop_of ?_)) | walk1 | (dsimp only; walk1) | fail "no step")
        rename Fr _ _ _ _ => F8
        rename News _ _ _ _ => N8
        rename _ ∧ AllLt _ _ => l8
        refine ⟨⟨_, _, [_], rfl, F8, cb_drop N8 ?_, ?_, _, _, 0, rfl, .head _, by assumption⟩⟩
        · intro p hp
          rcases List.mem_cons.mp hp with rfl | hp
          · exact .head _
          · exact .tail _ (.tail _ hp)
        · intro p hp q hq
          rw [List.mem_singleton.mp hp]
          exact Nat.ne_of_gt (allLt_mem l8.2 q hq)
    case finq =>
      intro D h2 tk2 ys nw2 hx hM hD hall
      have F2 := Ext.fr hx F
      have N3 : News s.heap L h2 ((D, LCg.lst ys) :: nw2 ++ (I, oI) :: (L + 1, oc) :: nw) := by
        intro p hp
        rcases List.mem_append.mp hp with hp | hp
        · exact ⟨(hM p hp).1, Mine.Fr.fresh F (hM p hp).2⟩
        · exact Ext.news hx N2 p hp
      have hys := hall.length
      have hpl := pairsOf_len (okAt d) (waysOf (rows.take i))
      have hwsl := hW.length
      refine addL F2 N3 (vs := ws) (ws := ys) ⟨_, N3.get (List.mem_append_right _ (.tail _ (.tail _ hwa))), rfl, _, rfl⟩ ⟨_, N3.get (.head _), rfl, _, rfl⟩ ?_ (by rw [sizeLine_eq]; omega)
      intro D3 h3 F3 N4 hD3
      have hFL := N2.get (a := L + 1) (.tail _ (.head _))
      clear F N N2 F2
      (try dsimp only)
      repeat' (first | ((with_reducible show wpAny _ _ (compareOp CmpOp.NotIn (Value.int _ _) (Value.ref _)) _ _ _); (k_dflt (refine notin_list_ints (by assumption) (by assumption) ?_))) | ((with_reducible show wpAny _ _ (call (Value.builtin "list.count") _) _ _ _); (k_dflt (refine count_list_ints (by assumption) (by assumption) ?_))) | ((with_reducible show wpAny _ _ (getMethod (Value.ref _) _ _) _ _ _); (k_dflt (refine getMethod_list_of PySem.F.slot_list_count PySem.F.type_list_count (by assumption) (by assumption) ?_))) | ((with_reducible show wpAny _ _ (call (Value.builtin "len") _) _ _ _); (k_dflt (refine PyProof.Rows.len_list (by assumption) (by simp; omega) ?_))) | ((with_reducible show wpAny _ _ (binaryOp Operator.Add (Value.ref _) (Value.ref _)) _ _ _); (k_dflt (refine addI (by assumption) (by assumption) (by assumption) (IsL.isList (News.get (by assumption) (.head _))) (by assumption) (by repeat' constructor) ?_ (by rw [sizeLine_eq]; simp; omega)); intro _ _ _ _ _ _)) | ((with_reducible show wpAny _ _ (subscriptTail _ _ _ _) _ _ _); (k_dflt (refine itemB (by assumption) (by omega) (by omega) (by assumption) ?_))) | ((with_reducible show wpAny _ _ (eval (PySem.Expr.Name _ _) _) _ _ _); (k_dflt (first | refine nameX_L (by assumption) (by assumption) ?_ | refine nameCL (by assumption) (by assumption) ?_ | refine nameCC (by assumption) (by assumption) rfl ?_))) | ((with_reducible show wpAny _ _ (eval (PySem.Expr.Name _ _) _) _ _ _); (k_dflt (refine ld (by assumption) (by assumption) ?_))) | ((with_reducible show wpAny _ _ (eval (PySem.Expr.ListComp _ _ _ _) _) _ _ _); (refine stop_of ?_)) | ((with_reducible show wpAny _ _ (exec (Stmt.For (PySem.Expr.Name _ _) (PySem.Expr.Name _ _) _ [] _) _) _ _ _); (refine stop_of ?_)) | ((with_reducible show wpAny _ _ (call (Value.ref _) _) _ _ _); (refine stop_of ?_)) | walk1 | (dsimp only; walk1) | fail "no step")
      rename Fr _ _ _ _ => F8
      rename News _ _ _ _ => N8
      refine ⟨⟨rfl, _, _, _, (D3, lst (ws ++ ys) 0) :: (nw2 ++ nw), rfl, F8, cb_drop N8 ?_, ?_, D3, ws ++ ys, 0, osz, by simp, .head _, .tail _ (List.mem_append_right _ hsz), hosz, ?_⟩⟩
      · intro p hp
        simp only [List.mem_cons, List.mem_append, List.cons_append] at hp ⊢
        rcases hp with h | h | h | h | h <;> simp [h]
      · intro p hp
        rcases List.mem_cons.mp hp with rfl | hp
        · exact ⟨Ne.symm (hD3 (L + 1, oc) (by simp)), Ne.symm (hD3 (I, oI) (by simp))⟩
        · rcases List.mem_append.mp hp with hp | hp
          · have z : H.get? p.1 = none := (hM p (.tail _ hp)).2
            exact ⟨fun q => (by rw [q, hFL] at z; cases z), fun q => (by rw [q, hI] at z; cases z)⟩
          · exact ⟨off p hp, hnI p hp⟩
      · rw [waysOf_take hd]
        refine All2.app (hW.mono fun w v _ ⟨a, vs, e, h1, h2, h3⟩ => ⟨a, vs, e, h1, .tail _ (List.mem_append_right _ h2), h3⟩) (All2.map1 (hall.mono fun p y _ ⟨a, vs, e, h1, h2, h3⟩ => ⟨a, vs, e, h1, .tail _ (List.mem_append_left _ h2), h3⟩))
  case fin =>
    intro m nw oc H tk o0 F N hoc off hJ
    obtain ⟨wa, ws, e, osz, hm, hwa, hsz, hosz, hW⟩ := hJ
    rw [List.take_length] at hW
    have F : Fr s.heap L H m := F
    have N : News s.heap L H ((L + 1, oc) :: nw) := N
    have hlen1 : (waysOf rows).length ≤ 625 := Nat.le_trans (waysOf_len _) (Nat.pow_le_pow_right (by decide) hlen)
    have XH := X.keeps F.keep
    have TH := T.keeps F.keep
    have N1 : News s.heap L H [(L + 1 + 1, osz), (L + 1, oc)] := cb_drop N (by intro p hp; simp only [List.mem_cons, List.not_mem_nil, or_false] at hp; rcases hp with rfl | rfl; exact .tail _ hsz; exact .head _)
    have hwl : H.IsList wa ws.toArray := ⟨_, N.get (.tail _ hwa), rfl, _, rfl⟩
    have hW2 : All2 (fun (w : List Int) v => ∃ a vs, v = Value.ref a ∧ H.IsList a (List.toArray vs) ∧ IntsAre vs w) (waysOf rows) ws := hW.mono fun w v _ ⟨a, vs, e, h1, h2, h3⟩ => ⟨a, vs, h1, ⟨_, N.get (.tail _ h2), rfl, _, rfl⟩, h3⟩
    clear F9 N9 N hW
    (try dsimp only)
    repeat' (first | ((with_reducible show wpAny _ _ (compareOp CmpOp.NotIn (Value.int _ _) (Value.ref _)) _ _ _); (k_dflt (refine notin_list_ints (by assumption) (by assumption) ?_))) | ((with_reducible show wpAny _ _ (call (Value.builtin "list.count") _) _ _ _); (k_dflt (refine count_list_ints (by assumption) (by assumption) ?_))) | ((with_reducible show wpAny _ _ (getMethod (Value.ref _) _ _) _ _ _); (k_dflt (refine getMethod_list_of PySem.F.slot_list_count PySem.F.type_list_count (by assumption) (by assumption) ?_))) | ((with_reducible show wpAny _ _ (call (Value.builtin "len") _) _ _ _); (k_dflt (refine PyProof.Rows.len_list (by assumption) (by simp; omega) ?_))) | ((with_reducible show wpAny _ _ (binaryOp Operator.Add (Value.ref _) (Value.ref _)) _ _ _); (k_dflt (refine addI (by assumption) (by assumption) (by assumption) (IsL.isList (News.get (by assumption) (.head _))) (by assumption) (by repeat' constructor) ?_ (by rw [sizeLine_eq]; simp; omega)); intro _ _ _ _ _ _)) | ((with_reducible show wpAny _ _ (subscriptTail _ _ _ _) _ _ _); (k_dflt (refine itemB (by assumption) (by omega) (by omega) (by assumption) ?_))) | ((with_reducible show wpAny _ _ (eval (PySem.Expr.Name _ _) _) _ _ _); (k_dflt (first | refine nameX_L (by assumption) (by assumption) ?_ | refine nameCL (by assumption) (by assumption) ?_ | refine nameCC (by assumption) (by assumption) rfl ?_))) | ((with_reducible show wpAny _ _ (eval (PySem.Expr.Name _ _) _) _ _ _); (k_dflt (refine ld (by assumption) (by assumption) ?_))) | ((with_reducible show wpAny _ _ (eval (PySem.Expr.ListComp _ _ _ _) _) _ _ _); (refine stop_of ?_)) | ((with_reducible show wpAny _ _ (exec (Stmt.For (PySem.Expr.Name _ _) (PySem.Expr.Name _ _) _ [] _) _) _ _ _); (refine stop_of ?_)) | ((with_reducible show wpAny _ _ (call (Value.ref _) _) _ _ _); (refine stop_of ?_)) | walk1 | (dsimp only; walk1) | fail "no step")
    refine ⟨?_⟩
    refine comp_E (α := List Int) (fun w y _ => ∃ t, y = Value.int (w.length : Int) t) (fun _ _ _ _ h _ => h) ?_
    (try dsimp only)
    repeat' (first | ((with_reducible show wpAny _ _ (compareOp CmpOp.NotIn (Value.int _ _) (Value.ref _)) _ _ _); (k_dflt (refine notin_list_ints (by assumption) (by assumption) ?_))) | ((with_reducible show wpAny _ _ (call (Value.builtin "list.count") _) _ _ _); (k_dflt (refine count_list_ints (by assumption) (by assumption) ?_))) | ((with_reducible show wpAny _ _ (getMethod (Value.ref _) _ _) _ _ _); (k_dflt (refine getMethod_list_of PySem.F.slot_list_count PySem.F.type_list_count (by assumption) (by assumption) ?_))) | ((with_reducible show wpAny _ _ (call (Value.builtin "len") _) _ _ _); (k_dflt (refine PyProof.Rows.len_list (by assumption) (by simp; omega) ?_))) | ((with_reducible show wpAny _ _ (binaryOp Operator.Add (Value.ref _) (Value.ref _)) _ _ _); (k_dflt (refine addI (by assumption) (by assumption) (by assumption) (IsL.isList (News.get (by assumption) (.head _))) (by assumption) (by repeat' constructor) ?_ (by rw [sizeLine_eq]; simp; omega)); intro _ _ _ _ _ _)) | ((with_reducible show wpAny _ _ (subscriptTail _ _ _ _) _ _ _); (k_dflt (refine itemB (by assumption) (by omega) (by omega) (by assumption) ?_))) | ((with_reducible show wpAny _ _ (eval (PySem.Expr.Name _ _) _) _ _ _); (k_dflt (first | refine nameX_L (by assumption) (by assumption) ?_ | refine nameCL (by assumption) (by assumption) ?_ | refine nameCC (by assumption) (by assumption) rfl ?_))) | ((with_reducible show wpAny _ _ (eval (PySem.Expr.Name _ _) _) _ _ _); (k_dflt (refine ld (by assumption) (by assumption) ?_))) | ((with_reducible show wpAny _ _ (eval (PySem.Expr.ListComp _ _ _ _) _) _ _ _); (refine stop_of ?_)) | ((with_reducible show wpAny _ _ (exec (Stmt.For (PySem.Expr.Name _ _) (PySem.Expr.Name _ _) _ [] _) _) _ _ _); (refine stop_of ?_)) | ((with_reducible show wpAny _ _ (call (Value.ref _) _) _ _ _); (refine stop_of ?_)) | walk1 | (dsimp only; walk1) | fail "no step")
    refine ⟨⟨waysOf rows, (fun w v => ∃ a vs, v = Value.ref a ∧ H.IsList a (List.toArray vs) ∧ IntsAre vs w), .list hwl hW2 (by rw [← hW2.length, sizeLine_eq]; omega), ?turn3, ?fin3⟩⟩
    case turn3 =>
      intro u v C m' nw H2 tk2 E2 hw hR hx F2 N2
      obtain ⟨a, vs, rfl, hva, hvi⟩ := hR
      have hva2 : H2.IsList a vs.toArray := hva.at fun o e => F2.keep _ _ e
      have hvl := hvi.length
      have hul := way_len _ u hw
      clear F N1
      (try dsimp only)
      repeat' (first | ((with_reducible show wpAny _ _ (compareOp CmpOp.NotIn (Value.int _ _) (Value.ref _)) _ _ _); (k_dflt (refine notin_list_ints (by assumption) (by assumption) ?_))) | ((with_reducible show wpAny _ _ (call (Value.builtin "list.count") _) _ _ _); (k_dflt (refine count_list_ints (by assumption) (by assumption) ?_))) | ((with_reducible show wpAny _ _ (getMethod (Value.ref _) _ _) _ _ _); (k_dflt (refine getMethod_list_of PySem.F.slot_list_count PySem.F.type_list_count (by assumption) (by assumption) ?_))) | ((with_reducible show wpAny _ _ (call (Value.builtin "len") _) _ _ _); (k_dflt (refine PyProof.Rows.len_list (by assumption) (by simp; omega) ?_))) | ((with_reducible show wpAny _ _ (binaryOp Operator.Add (Value.ref _) (Value.ref _)) _ _ _); (k_dflt (refine addI (by assumption) (by assumption) (by assumption) (IsL.isList (News.get (by assumption) (.head _))) (by assumption) (by repeat' constructor) ?_ (by rw [sizeLine_eq]; simp; omega)); intro _ _ _ _ _ _)) | ((with_reducible show wpAny _ _ (subscriptTail _ _ _ _) _ _ _); (k_dflt (refine itemB (by assumption) (by omega) (by omega) (by assumption) ?_))) | ((with_reducible show wpAny _ _ (eval (PySem.Expr.Name _ _) _) _ _ _); (k_dflt (first | refine nameX_L (by assumption) (by assumption) ?_ | refine nameCL (by assumption) (by assumption) ?_ | refine nameCC (by assumption) (by assumption) rfl ?_))) | ((with_reducible show wpAny _ _ (eval (PySem.Expr.Name _ _) _) _ _ _); (k_dflt (refine ld (by assumption) (by assumption) ?_))) | ((with_reducible show wpAny _ _ (eval (PySem.Expr.ListComp _ _ _ _) _) _ _ _); (refine stop_of ?_)) | ((with_reducible show wpAny _ _ (exec (Stmt.For (PySem.Expr.Name _ _) (PySem.Expr.Name _ _) _ [] _) _) _ _ _); (refine stop_of ?_)) | ((with_reducible show wpAny _ _ (call (Value.ref _) _) _ _ _); (refine stop_of ?_)) | walk1 | (dsimp only; walk1) | fail "no step")
      exact ⟨⟨_, _, [], rfl, F2, N2, fun _ h => (nomatch h), _, by rw [List.size_toArray, hvl]⟩⟩
    case fin3 =>
      intro D h2 tk2 ys nw2 hx hM hD hall
      have hints : IntsAre ys (sizesOf rows) := All2.ints (All2.map1 hall)
      have F2 := Ext.fr hx F
      have N2 : News s.heap L h2 [(D, LCg.lst ys), (L + 1 + 1, osz), (L + 1, oc)] := Mine.News.one (hM _ (.head _)).1 (Mine.Fr.fresh F (hM _ (.head _)).2) (Ext.news hx N1)
      clear F N1
      (try dsimp only)
      repeat' (first | ((with_reducible show wpAny _ _ (compareOp CmpOp.NotIn (Value.int _ _) (Value.ref _)) _ _ _); (k_dflt (refine notin_list_ints (by assumption) (by assumption) ?_))) | ((with_reducible show wpAny _ _ (call (Value.builtin "list.count") _) _ _ _); (k_dflt (refine count_list_ints (by assumption) (by assumption) ?_))) | ((with_reducible show wpAny _ _ (getMethod (Value.ref _) _ _) _ _ _); (k_dflt (refine getMethod_list_of PySem.F.slot_list_count PySem.F.type_list_count (by assumption) (by assumption) ?_))) | ((with_reducible show wpAny _ _ (call (Value.builtin "len") _) _ _ _); (k_dflt (refine PyProof.Rows.len_list (by assumption) (by simp; omega) ?_))) | ((with_reducible show wpAny _ _ (binaryOp Operator.Add (Value.ref _) (Value.ref _)) _ _ _); (k_dflt (refine addI (by assumption) (by assumption) (by assumption) (IsL.isList (News.get (by assumption) (.head _))) (by assumption) (by repeat' constructor) ?_ (by rw [sizeLine_eq]; simp; omega)); intro _ _ _ _ _ _)) | ((with_reducible show wpAny _ _ (subscriptTail _ _ _ _) _ _ _); (k_dflt (refine itemB (by assumption) (by omega) (by omega) (by assumption) ?_))) | ((with_reducible show wpAny _ _ (eval (PySem.Expr.Name _ _) _) _ _ _); (k_dflt (first | refine nameX_L (by assumption) (by assumption) ?_ | refine nameCL (by assumption) (by assumption) ?_ | refine nameCC (by assumption) (by assumption) rfl ?_))) | ((with_reducible show wpAny _ _ (eval (PySem.Expr.Name _ _) _) _ _ _); (k_dflt (refine ld (by assumption) (by assumption) ?_))) | ((with_reducible show wpAny _ _ (eval (PySem.Expr.ListComp _ _ _ _) _) _ _ _); (refine stop_of ?_)) | ((with_reducible show wpAny _ _ (exec (Stmt.For (PySem.Expr.Name _ _) (PySem.Expr.Name _ _) _ [] _) _) _ _ _); (refine stop_of ?_)) | ((with_reducible show wpAny _ _ (call (Value.ref _) _) _ _ _); (refine stop_of ?_)) | walk1 | (dsimp only; walk1) | fail "no step")
      refine ⟨?_⟩
      rename_i h3 o3 F3 N3 d3
      have N3 : News s.heap L h3 [(D, LCg.lst ys), (L + 1 + 1, o3), (L + 1, oc)] := N3
      refine comp_E (α := Int) (fun k y _ => ∃ t, y = Value.int ((sizesOf rows).count k : Int) t) (fun _ _ _ _ h _ => h) ?_
      (try dsimp only)
      repeat' (first | ((with_reducible show wpAny _ _ (compareOp CmpOp.NotIn (Value.int _ _) (Value.ref _)) _ _ _); (k_dflt (refine notin_list_ints (by assumption) (by assumption) ?_))) | ((with_reducible show wpAny _ _ (call (Value.builtin "list.count") _) _ _ _); (k_dflt (refine count_list_ints (by assumption) (by assumption) ?_))) | ((with_reducible show wpAny _ _ (getMethod (Value.ref _) _ _) _ _ _); (k_dflt (refine getMethod_list_of PySem.F.slot_list_count PySem.F.type_list_count (by assumption) (by assumption) ?_))) | ((with_reducible show wpAny _ _ (call (Value.builtin "len") _) _ _ _); (k_dflt (refine PyProof.Rows.len_list (by assumption) (by simp; omega) ?_))) | ((with_reducible show wpAny _ _ (binaryOp Operator.Add (Value.ref _) (Value.ref _)) _ _ _); (k_dflt (refine addI (by assumption) (by assumption) (by assumption) (IsL.isList (News.get (by assumption) (.head _))) (by assumption) (by repeat' constructor) ?_ (by rw [sizeLine_eq]; simp; omega)); intro _ _ _ _ _ _)) | ((with_reducible show wpAny _ _ (subscriptTail _ _ _ _) _ _ _); (k_dflt (refine itemB (by assumption) (by omega) (by omega) (by assumption) ?_))) | ((with_reducible show wpAny _ _ (eval (PySem.Expr.Name _ _) _) _ _ _); (k_dflt (first | refine nameX_L (by assumption) (by assumption) ?_ | refine nameCL (by assumption) (by assumption) ?_ | refine nameCC (by assumption) (by assumption) rfl ?_))) | ((with_reducible show wpAny _ _ (eval (PySem.Expr.Name _ _) _) _ _ _); (k_dflt (refine ld (by assumption) (by assumption) ?_))) | ((with_reducible show wpAny _ _ (eval (PySem.Expr.ListComp _ _ _ _) _) _ _ _); (refine stop_of ?_)) | ((with_reducible show wpAny _ _ (exec (Stmt.For (PySem.Expr.Name _ _) (PySem.Expr.Name _ _) _ [] _) _) _ _ _); (refine stop_of ?_)) | ((with_reducible show wpAny _ _ (call (Value.ref _) _) _ _ _); (refine stop_of ?_)) | walk1 | (dsimp only; walk1) | fail "no step")
      rename Fr _ _ _ _ => F4
      rename News _ _ _ _ => N4
      refine ⟨⟨[4, 3, 2, 1, 0], (fun k v => ∃ t, v = Value.int k t), .list (IsL.isList (N4.get (.head _))) (by repeat' constructor) (by rw [sizeLine_eq]; simp), ?turn4, ?fin4⟩⟩
      case turn4 =>
        intro k v C m' nw H2 tk2 E2 hk hR hx F5 N5
        obtain ⟨tv, rfl⟩ := hR
        have hcell := (⟨o3, N4.get (a := L + 1 + 1) (by k_mem), d3⟩ : Heap.IsCell _ (L + 1 + 1) (some (Value.ref D)))
        have hlist := PySem.IsL.isList (N4.get (a := D) (by k_mem))
        have hlist2 := hlist.at fun o e => F5.keep _ _ e
        have hnd : H2.NoDictAt (.ref D) := ⟨_, F5.keep _ _ (N4.get (a := D) (by k_mem)), rfl⟩
        clear F4 N4
        (try dsimp only)
        repeat' (first | ((with_reducible show wpAny _ _ (compareOp CmpOp.NotIn (Value.int _ _) (Value.ref _)) _ _ _); (k_dflt (refine notin_list_ints (by assumption) (by assumption) ?_))) | ((with_reducible show wpAny _ _ (call (Value.builtin "list.count") _) _ _ _); (k_dflt (refine count_list_ints (by assumption) (by assumption) ?_))) | ((with_reducible show wpAny _ _ (getMethod (Value.ref _) _ _) _ _ _); (k_dflt (refine getMethod_list_of PySem.F.slot_list_count PySem.F.type_list_count (by assumption) (by assumption) ?_))) | ((with_reducible show wpAny _ _ (call (Value.builtin "len") _) _ _ _); (k_dflt (refine PyProof.Rows.len_list (by assumption) (by simp; omega) ?_))) | ((with_reducible show wpAny _ _ (binaryOp Operator.Add (Value.ref _) (Value.ref _)) _ _ _); (k_dflt (refine addI (by assumption) (by assumption) (by assumption) (IsL.isList (News.get (by assumption) (.head _))) (by assumption) (by repeat' constructor) ?_ (by rw [sizeLine_eq]; simp; omega)); intro _ _ _ _ _ _)) | ((with_reducible show wpAny _ _ (subscriptTail _ _ _ _) _ _ _); (k_dflt (refine itemB (by assumption) (by omega) (by omega) (by assumption) ?_))) | ((with_reducible show wpAny _ _ (eval (PySem.Expr.Name _ _) _) _ _ _); (k_dflt (first | refine nameX_L (by assumption) (by assumption) ?_ | refine nameCL (by assumption) (by assumption) ?_ | refine nameCC (by assumption) (by assumption) rfl ?_))) | ((with_reducible show wpAny _ _ (eval (PySem.Expr.Name _ _) _) _ _ _); (k_dflt (refine ld (by assumption) (by assumption) ?_))) | ((with_reducible show wpAny _ _ (eval (PySem.Expr.ListComp _ _ _ _) _) _ _ _); (refine stop_of ?_)) | ((with_reducible show wpAny _ _ (exec (Stmt.For (PySem.Expr.Name _ _) (PySem.Expr.Name _ _) _ [] _) _) _ _ _); (refine stop_of ?_)) | ((with_reducible show wpAny _ _ (call (Value.ref _) _) _ _ _); (refine stop_of ?_)) | walk1 | (dsimp only; walk1) | fail "no step")
        exact ⟨⟨_, _, [], rfl, F5, N5, fun _ h => (nomatch h), _, rfl⟩⟩
      case fin4 =>
        intro D2 h4 tk4 ys4 nw4 hx4 hM4 hD4 hall4
        (try dsimp only)
        repeat' (first | ((with_reducible show wpAny _ _ (compareOp CmpOp.NotIn (Value.int _ _) (Value.ref _)) _ _ _); (k_dflt (refine notin_list_ints (by assumption) (by assumption) ?_))) | ((with_reducible show wpAny _ _ (call (Value.builtin "list.count") _) _ _ _); (k_dflt (refine count_list_ints (by assumption) (by assumption) ?_))) | ((with_reducible show wpAny _ _ (getMethod (Value.ref _) _ _) _ _ _); (k_dflt (refine getMethod_list_of PySem.F.slot_list_count PySem.F.type_list_count (by assumption) (by assumption) ?_))) | ((with_reducible show wpAny _ _ (call (Value.builtin "len") _) _ _ _); (k_dflt (refine PyProof.Rows.len_list (by assumption) (by simp; omega) ?_))) | ((with_reducible show wpAny _ _ (binaryOp Operator.Add (Value.ref _) (Value.ref _)) _ _ _); (k_dflt (refine addI (by assumption) (by assumption) (by assumption) (IsL.isList (News.get (by assumption) (.head _))) (by assumption) (by repeat' constructor) ?_ (by rw [sizeLine_eq]; simp; omega)); intro _ _ _ _ _ _)) | ((with_reducible show wpAny _ _ (subscriptTail _ _ _ _) _ _ _); (k_dflt (refine itemB (by assumption) (by omega) (by omega) (by assumption) ?_))) | ((with_reducible show wpAny _ _ (eval (PySem.Expr.Name _ _) _) _ _ _); (k_dflt (first | refine nameX_L (by assumption) (by assumption) ?_ | refine nameCL (by assumption) (by assumption) ?_ | refine nameCC (by assumption) (by assumption) rfl ?_))) | ((with_reducible show wpAny _ _ (eval (PySem.Expr.Name _ _) _) _ _ _); (k_dflt (refine ld (by assumption) (by assumption) ?_))) | ((with_reducible show wpAny _ _ (eval (PySem.Expr.ListComp _ _ _ _) _) _ _ _); (refine stop_of ?_)) | ((with_reducible show wpAny _ _ (exec (Stmt.For (PySem.Expr.Name _ _) (PySem.Expr.Name _ _) _ [] _) _) _ _ _); (refine stop_of ?_)) | ((with_reducible show wpAny _ _ (call (Value.ref _) _) _ _ _); (refine stop_of ?_)) | walk1 | (dsimp only; walk1) | fail "no step")
        refine hret h4 tk4 D2 ys4 ys4.length (fun b o e => hx4 _ _ (F4.keep b o e)) (Mine.Fr.fresh F4 (hM4 _ (.head _)).2).2 (hM4 _ (.head _)).1 ?_
        exact All2.ints (All2.map1 hall4)
end Mine
end PartF12

section PartC7
open PySem PySem.W PyProof.Rows PySem.Calls
namespace Mine
inductive LocR (g : Heap) (L : Addr) (s₁ : Shared) (I : Addr) (oI : Obj) (nw : List (Addr × Obj)) (J : (Str → Option Value) → Prop) (s' : Shared) : Prop
  | mk (h' : Heap) (tk' : Nat) (m' : Str → Option Value) : s' = { s₁ with heap := h', toks := tk' } → Fr g L h' m' → News g L h' ((I, oI) :: nw) → J m' → LocR g L s₁ I oI nw J s'
def LocEnd (g : Heap) (L : Addr) (s₁ : Shared) (I : Addr) (oI : Obj) (nw : List (Addr × Obj)) (J : (Str → Option Value) → Prop) (Q : Flow → Shared → Prop) (f : Flow) (s' : Shared) : Prop :=
  Stop (match f with
    | .next => LocR g L s₁ I oI nw J s'
    | .ret v => Q (.ret v) s'
    | _ => False)
inductive PreLoc (α : Type) (prog : Program) (w : World) (A : Around) (env : Env) (x : Str) (body : List Stmt) (g : Heap) (J : Nat → (Str → Option Value) → Prop) (Q : Flow → Shared → Prop) (xv : Value) (s₁ : Shared) : Prop
  | mk (ds : List α) (R : α → Value → Prop) (ax : Addr) (its : List Value) (e : Nat) (m : Str → Option Value) (nw : List (Addr × Obj)) : xv = .ref ax → (ax, ({ cls := .type "list", data := .seq its.toArray e } : Obj)) ∈ nw → All2 R ds its → Fr g env.locals s₁.heap m → News g env.locals s₁.heap nw → J 0 m →
      (∀ i d v m I oI H tk E', ds[i]? = some d → R d v → Fr g env.locals H (fun z => if z = x then some v else m z) → News g env.locals H ((I, oI) :: nw) → J i m →
        wpAny (model prog w) A (execs body env) (LocEnd g env.locals s₁ I oI nw (J (i + 1)) Q) E' { s₁ with heap := H, toks := tk }) →
      (∀ m H tk, Fr g env.locals H m → News g env.locals H nw → J ds.length m → Q .next { s₁ with heap := H, toks := tk }) → PreLoc α prog w A env x body g J Q xv s₁
inductive InvLoc (s₁ : Shared) (its : List Value) (g : Heap) (L I ax : Addr) (nw : List (Addr × Obj)) (J : Nat → (Str → Option Value) → Prop) (k : Nat) (s' : Shared) : Prop
  | mk (h' : Heap) (tk i : Nat) (m' : Str → Option Value) : s' = { s₁ with heap := h', toks := tk } → i ≤ its.length → k = its.length + 1 - i → h'.IsListIter I ax i → Fr g L h' m' → News g L h' nw → J i m' → InvLoc s₁ its g L I ax nw J k s'
section
variable {prog : Program} {w : World} {A : Around} {E : Value → Shared → Prop} {s : Shared} {env : Env}
/-- a for over a list of the ledger, its target a local; the turn may leave by a return -/
theorem for_loc {α : Type} {x : Str} {px pos : Pos} {iter : Expr} {body : List Stmt} {Q : Flow → Shared → Prop} {g : Heap}
    (J : Nat → (Str → Option Value) → Prop)
    (h : wpAny (model prog w) A (eval iter env) (fun xv s₁ => Stop (PreLoc α prog w A env x body g J Q xv s₁)) E s)
    (hx : env.kindOf x = some .local) (hp : (env.scope.kind == .class || (env.scope.kind == .module && env.locals != env.globals)) = false) (hh : A.handled = none)
    (hs : ∀ x, foldedSetIterable iter env x = pure x := by intro _; rfl) :
    wpAny (model prog w) A (exec (.For (.Name x px) iter body [] pos) env) Q E s := by
  refine wpAny_For (wpAny_mono h (fun xv s₁ h₁ => ?_) fun _ _ e => e) hs
  obtain ⟨ds, R, ax, its, e, m, nw, rfl, hax, hR, F, N, hJ, turn, fin⟩ := h₁.out
  have hl1 : s₁.heap.IsList ax its.toArray := ⟨_, N.get hax, rfl, _, rfl⟩
  refine wpAny_pyIter_list hl1 ?_
  have hIg : g.get? s₁.heap.objs.size = none := by
    cases q : g.get? s₁.heap.objs.size with
    | none => rfl
    | some o => exact absurd (Heap.lt_size (F.keep _ _ q)) (Nat.lt_irrefl _)
  have hIL : s₁.heap.objs.size ≠ env.locals := Ne.symm (Nat.ne_of_lt (by obtain ⟨o, _, _, e, _⟩ := F.ns; exact Heap.lt_size e))
  have hIn : ∀ p ∈ nw, p.1 ≠ s₁.heap.objs.size := fun p hp => Nat.ne_of_lt (Heap.lt_size (N p hp).1)
  have hpush : Ext s₁.heap (s₁.heap.push { cls := .type "list_iterator", data := .fields #[.ref ax, .int 0 0] }) := fun b o e => Heap.get?_push_of_some _ e
  have hit : (s₁.heap.push { cls := .type "list_iterator", data := .fields #[.ref ax, .int 0 0] }).IsListIter s₁.heap.objs.size ax 0 := ⟨_, Heap.get?_push_size _ rfl, rfl, rfl⟩
  have F1 := F.keeps hpush
  have N1 := N.grown hpush
  generalize s₁.heap.push { cls := .type "list_iterator", data := .fields #[.ref ax, .int 0 0] } = h₁ at *
  generalize s₁.heap.objs.size = I at *
  refine codeAny_forLoop
    (fun k s' => InvLoc s₁ its g env.locals I ax nw J k s') ?_ (its.length + 1)
    ⟨h₁, s₁.toks, 0, m, rfl, Nat.zero_le _, rfl, hit, F1, N1, hJ⟩
  rintro k s' ⟨h', tk, i, m', rfl, hi, rfl, hit', F', N', hJ'⟩
  have hl' : h'.IsList ax its.toArray := ⟨_, N'.get hax, rfl, _, rfl⟩
  have stay : ∀ {h₂ : Heap}, (∀ b o, b ≠ I → h'.get? b = some o → h₂.get? b = some o) → Fr g env.locals h₂ m' ∧ News g env.locals h₂ nw := fun hk =>
    ⟨⟨F'.ns.at' fun o e => hk _ o (Ne.symm hIL) e, fun b o e => hk b o (fun q => by rw [q, hIg] at e; cases e) (F'.keep b o e), F'.above⟩, fun p hp => ⟨hk _ _ (hIn p hp) (N' p hp).1, (N' p hp).2⟩⟩
  by_cases hlt : i < its.length
  · refine wpAny_pyNext_list_item hit' hl' (x := its[i]) (by simp [hlt]) fun h₂ hit₂ hs₂ => ?_
    obtain ⟨F₂, N₂⟩ := stay fun b o hb e => hs₂.extBut b o hb e
    dsimp only
    refine wpAny_assign_Name (wpAny_storeName_local hx F₂.ns (fun h₃ hn₃ hs₃ => ?_) hp)
    have F₃ := F₂.set hn₃ hs₃
    have N₃ := N₂.set hs₃
    obtain ⟨d, hd, hR'⟩ := hR.get (i := i) (b := its[i]) (by simp [hlt])
    have hit3 : h₃.IsListIter I ax (i + 1) := hit₂.extBut hs₃.extBut hIL
    obtain ⟨oI, heI, hIc, hId⟩ := hit3
    refine wpAny_mono (turn i d its[i] m' I oI h₃ _ _ hd hR' F₃ (Mine.News.one heI ⟨hIL, hIg⟩ N₃) hJ') (fun f s₄ q => ?_) fun _ _ e => e
    have q := q.out
    cases f with
    | next =>
      obtain ⟨h₄, tk₄, m₄, rfl, F₄, N₄, hJ₄⟩ := q
      exact ⟨its.length + 1 - (i + 1), by omega, h₄, tk₄, i + 1, m₄, rfl, hlt, rfl, ⟨oI, (N₄ _ (.head _)).1, hIc, hId⟩, F₄, cb_drop N₄ (by intro p hp; exact .tail _ hp), hJ₄⟩
    | ret v => exact q
    | brk => exact q.elim
    | cont => exact q.elim
  · obtain rfl : i = its.length := Nat.le_antisymm hi (Nat.not_lt.mp hlt)
    refine wpAny_pyNext_list_end hh hit' hl' (by simp) fun h₂ hk₂ => wpAny_execs_nil ?_
    obtain ⟨F₂, N₂⟩ := stay fun b o hb e => hk₂ b o hb e
    rw [← hR.length] at hJ'
    exact fin m' h₂ tk F₂ N₂ hJ'
end
end Mine
end PartC7

section PartF13
open PySem PySem.W PyProof.Rows PySem.Calls
namespace Mine
theorem offF13 : True := by w_top off; trivial
local macro_rules | `(tactic| walk_at "pad F13") => `(tactic| skip)
variable {prog : Program} {w : World} {dp un : Nat} {gd : Option (List Code)} {fr : Option (List Env)} {s : Shared} {p : Program} {loose : List Str} {mean : ExcName → Option Value} {mg mb : Str → Option Value} {h₀ : Heap} {Q : Value → Shared → Prop} {E : Value → Shared → Prop}
abbrev dots : Str := Str.ofString "..."
abbrev eqs : Str := Str.ofString "="
def patF (c : Int) (g : Str) : List Str :=
  if c = 0 then [dots, g ++ dots, g ++ g ++ dots, g ++ g ++ eqs]
  else if c = 1 then [dots, Str.ofString "...=", g ++ Str.ofString "...=", g ++ g ++ Str.ofString "...="]
  else if c = 2 then [dots, g ++ dots, g ++ Str.ofString "...=", g ++ g ++ Str.ofString "...="]
  else [dots, dots ++ g ++ dots, dots ++ g ++ dots ++ g ++ dots, g ++ g]
def tkF (c : Int) : List (List Int) :=
  if c = 0 then [[0, 1, 2, 3, 4, 5], [0, 1, 2, 3], [1, 3], [3]]
  else if c = 1 then [[0, 1, 2, 3, 4, 5], [2, 3, 4], [2, 3], [3]]
  else if c = 2 then [[0, 1, 2, 3, 4, 5], [0, 1, 2, 3], [2, 3], [3]]
  else [[0, 1, 2, 3, 4, 5], [0, 1, 2, 3], [1, 3], [1]]
set_option maxRecDepth 100000 in
set_option maxHeartbeats 8000000 in
set_option pp.deepTerms false in
set_option pp.deepTerms.threshold 8 in
theorem patterns_spec {c : Int} {g : Str} {t u : Tok} (X : (KK w.params).In s.heap) (T : Top p loose mean mg mb s.heap) (hroom : dp + 5 < recursionLimit) (hun : un + 30 < cLine)
    (hc : 0 ≤ c ∧ c < 4) (hg : g.length = 1)
    (hret : ∀ h' tk' r vs e, Ext s.heap h' → s.heap.get? r = none → h'.get? r = some (lst vs e) → All2 (fun x v => ∃ t, v = Value.str x t) (patF c g) vs → Q (.ref r) { s with heap := h', toks := tk' }) :
    wpAny (model prog w) (AA dp un gd fr) (call (.ref 73) [.int c t, .str g u]) Q E s := by
  refine wpAny_call ?_
  refine enter (binds := [(Str.ofString "chain", .int c t), (Str.ofString "sign", .str g u)]) X T.nolimit (by k_is) (by k_is) (by show dp < recursionLimit; omega) (BindsTo.of_eq rfl) (locs rfl) ?_ rfl rfl rfl (by decide)
  intro L h₁ F
  have N : News s.heap L h₁ [] := News.nil
  (try dsimp only)
  repeat' (first | walk1 | (dsimp only; walk1) | fail "no step")
  · have hk : c = 0 := by omega
    subst hk
    rename Fr _ _ _ _ => F0
    rename News _ _ _ _ => N0
    refine hret _ _ _ _ _ F0.keep (N0.fresh (.head _)) (N0.get (.head _)) ?_
    repeat' first | exact ⟨_, rfl⟩ | constructor
  · have hk : c = 1 := by omega
    subst hk
    rename Fr _ _ _ _ => F0
    rename News _ _ _ _ => N0
    refine hret _ _ _ _ _ F0.keep (N0.fresh (.head _)) (N0.get (.head _)) ?_
    repeat' first | exact ⟨_, rfl⟩ | constructor
  · have hk : c = 2 := by omega
    subst hk
    rename Fr _ _ _ _ => F0
    rename News _ _ _ _ => N0
    refine hret _ _ _ _ _ F0.keep (N0.fresh (.head _)) (N0.get (.head _)) ?_
    repeat' first | exact ⟨_, rfl⟩ | constructor
  · have hk : c = 3 := by omega
    subst hk
    rename Fr _ _ _ _ => F0
    rename News _ _ _ _ => N0
    refine hret _ _ _ _ _ F0.keep (N0.fresh (.head _)) (N0.get (.head _)) ?_
    repeat' first | exact ⟨_, rfl⟩ | constructor
set_option maxRecDepth 100000 in
set_option maxHeartbeats 8000000 in
set_option pp.deepTerms false in
set_option pp.deepTerms.threshold 8 in
theorem taken_spec {c : Int} {t : Tok} (X : (KK w.params).In s.heap) (T : Top p loose mean mg mb s.heap) (hroom : dp + 5 < recursionLimit) (hun : un + 30 < cLine)
    (hc : 0 ≤ c ∧ c < 4)
    (hret : ∀ h' tk' r vs e, Ext s.heap h' → h'.get? r = some (lst vs e) → All2 (fun ks v => ∃ a ws, v = Value.ref a ∧ h'.IsList a (List.toArray ws) ∧ IntsAre ws ks) (tkF c) vs → Q (.ref r) { s with heap := h', toks := tk' }) :
    wpAny (model prog w) (AA dp un gd fr) (call (.ref 80) [.int c t]) Q E s := by
  refine wpAny_call ?_
  refine enter (binds := [(Str.ofString "chain", .int c t)]) X T.nolimit (by k_is) (by k_is) (by show dp < recursionLimit; omega) (BindsTo.of_eq rfl) (locs rfl) ?_ rfl rfl rfl (by decide)
  intro L h₁ F
  have N : News s.heap L h₁ [] := News.nil
  (try dsimp only)
  repeat' (first | walk1 | (dsimp only; walk1) | fail "no step")
  · have hk : c = 0 := by omega
    subst hk
    rename Fr _ _ _ _ => F0
    rename News _ _ _ _ => N0
    refine hret _ _ _ _ _ F0.keep (N0.get (.head _)) ?_
    rw [show tkF 0 = [[0, 1, 2, 3, 4, 5], [0, 1, 2, 3], [1, 3], [3]] from rfl]
    refine .cons ⟨_, _, rfl, PySem.IsL.isList (N0.get (by k_mem)), by repeat' constructor⟩ (.cons ⟨_, _, rfl, PySem.IsL.isList (N0.get (by k_mem)), by repeat' constructor⟩ (.cons ⟨_, _, rfl, PySem.IsL.isList (N0.get (by k_mem)), by repeat' constructor⟩ (.cons ⟨_, _, rfl, PySem.IsL.isList (N0.get (by k_mem)), by repeat' constructor⟩ .nil)))
  · have hk : c = 1 := by omega
    subst hk
    rename Fr _ _ _ _ => F0
    rename News _ _ _ _ => N0
    refine hret _ _ _ _ _ F0.keep (N0.get (.head _)) ?_
    rw [show tkF 1 = [[0, 1, 2, 3, 4, 5], [2, 3, 4], [2, 3], [3]] from rfl]
    refine .cons ⟨_, _, rfl, PySem.IsL.isList (N0.get (by k_mem)), by repeat' constructor⟩ (.cons ⟨_, _, rfl, PySem.IsL.isList (N0.get (by k_mem)), by repeat' constructor⟩ (.cons ⟨_, _, rfl, PySem.IsL.isList (N0.get (by k_mem)), by repeat' constructor⟩ (.cons ⟨_, _, rfl, PySem.IsL.isList (N0.get (by k_mem)), by repeat' constructor⟩ .nil)))
  · have hk : c = 2 := by omega
    subst hk
    rename Fr _ _ _ _ => F0
    rename News _ _ _ _ => N0
    refine hret _ _ _ _ _ F0.keep (N0.get (.head _)) ?_
    rw [show tkF 2 = [[0, 1, 2, 3, 4, 5], [0, 1, 2, 3], [2, 3], [3]] from rfl]
    refine .cons ⟨_, _, rfl, PySem.IsL.isList (N0.get (by k_mem)), by repeat' constructor⟩ (.cons ⟨_, _, rfl, PySem.IsL.isList (N0.get (by k_mem)), by repeat' constructor⟩ (.cons ⟨_, _, rfl, PySem.IsL.isList (N0.get (by k_mem)), by repeat' constructor⟩ (.cons ⟨_, _, rfl, PySem.IsL.isList (N0.get (by k_mem)), by repeat' constructor⟩ .nil)))
  · have hk : c = 3 := by omega
    subst hk
    rename Fr _ _ _ _ => F0
    rename News _ _ _ _ => N0
    refine hret _ _ _ _ _ F0.keep (N0.get (.head _)) ?_
    rw [show tkF 3 = [[0, 1, 2, 3, 4, 5], [0, 1, 2, 3], [1, 3], [1]] from rfl]
    refine .cons ⟨_, _, rfl, PySem.IsL.isList (N0.get (by k_mem)), by repeat' constructor⟩ (.cons ⟨_, _, rfl, PySem.IsL.isList (N0.get (by k_mem)), by repeat' constructor⟩ (.cons ⟨_, _, rfl, PySem.IsL.isList (N0.get (by k_mem)), by repeat' constructor⟩ (.cons ⟨_, _, rfl, PySem.IsL.isList (N0.get (by k_mem)), by repeat' constructor⟩ .nil)))
end Mine
end PartF13

section PartF14
open PySem PySem.W PyProof.Rows PySem.Calls
namespace Mine
theorem offF14 : True := by w_top off; trivial
variable {prog : Program} {w : World} {dp un : Nat} {gd : Option (List Code)} {fr : Option (List Env)} {s : Shared} {p : Program} {loose : List Str} {mean : ExcName → Option Value} {mg mb : Str → Option Value} {h₀ : Heap} {Q : Value → Shared → Prop} {E : Value → Shared → Prop}
section
variable {A : Around} {x y : Str} {t u : Tok} {b : Bool}
theorem notInE (e : Txt.contains x y = b) (h : Q (.bool !b) s) : wpAny (model prog w) A (compareOp .NotIn (.str y u) (.str x t)) Q E s := by
  subst e; exact SB.notContains h
theorem eqE (e : (x == y) = b) (h : Q (.bool b) s) : wpAny (model prog w) A (compareOp .Eq (.str x t) (.str y u)) Q E s := by
  subst e; exact eq_str h
theorem strs_of {l : List (Str × Tok)} {ys : List Str} (h : l.map (·.1) = ys) : All2 (fun x v => ∃ t, v = Value.str x t) ys (strValues l) := by
  subst h
  induction l with
  | nil => exact .nil
  | cons p l ih => exact .cons ⟨_, rfl⟩ ih
theorem splitD {g : Heap} {L : Addr} {m : Str → Option Value} {news : List (Addr × Obj)} {w0 wl : Str} {mid : List Str} (hsp : Txt.split x y = w0 :: (mid ++ [wl])) (hy : (y.length == 0) = false) (hsz : x.length + 2 ≤ sizeLine) (F : Fr g L s.heap m) (N : News g L s.heap news)
    (h : ∀ D t0 mv tl h' k, All2 (fun x v => ∃ t, v = Value.str x t) mid mv → Fr g L h' m → News g L h' ((D, lst (.str w0 t0 :: (mv ++ [.str wl tl])) 0) :: news) → (∀ p ∈ news, p.1 ≠ D) → Q (.ref D) { s with heap := h', toks := k }) :
    wpAny (model prog w) A (call (.builtin "str.split") [.str x t, .str y u]) Q E s := by
  refine splitN1 (hsz := hsz) F N hy fun l h' k e F' N' => ?_
  have hs := strs_of (e.trans hsp)
  have lst_inv : ∀ {a : List Str} {b : Str} {vs : List Value}, All2 (fun x v => ∃ t, v = Value.str x t) (a ++ [b]) vs → ∃ mv tl, vs = mv ++ [.str b tl] ∧ All2 (fun x v => ∃ t, v = Value.str x t) a mv := by
    intro a
    induction a with
    | nil => intro b vs h; cases h with | cons x r => cases r; obtain ⟨t, rfl⟩ := x; exact ⟨[], t, rfl, .nil⟩
    | cons c a ih => intro b vs h; cases h with | cons x r => obtain ⟨mv, tl, rfl, hm⟩ := ih r; exact ⟨_ :: mv, tl, rfl, .cons x hm⟩
  cases hs' : strValues l with
  | nil => rw [hs'] at hs; cases hs
  | cons v vs =>
    rw [hs'] at hs N'
    cases hs with
    | cons hx hr =>
      obtain ⟨t0, rfl⟩ := hx
      obtain ⟨mv, tl, rfl, hm⟩ := lst_inv hr
      exact h _ t0 mv tl h' k hm F' N' fun p hp => Nat.ne_of_lt (Heap.lt_size (N p hp).1)
theorem lenD {a : Addr} {vs : List Value} (hl : s.heap.IsList a vs.toArray) (hz : vs.length ≤ 1000) (h : Q (.int (vs.length : Int) (s.toks + 1)) { s with toks := s.toks + 1 + 1 }) : wpAny (model prog w) A (call (.builtin "len") [.ref a]) Q E s := by
  have e : vs.toArray.size = vs.length := by simp
  exact PyProof.Rows.len_list hl (by rw [e]; omega) (by rw [e]; exact h)
theorem delD {g : Heap} {L D : Addr} {m : Str → Option Value} {news : List (Addr × Obj)} {vs vs' : List Value} {n k : Nat} {i : Int} (hm : (D, lst vs n) ∈ news) (hfit : Builtin.List.listFitsIndex i = true) (hk : seqIndex? i vs.length = some k) (he : vs.eraseIdx k = vs') (hz : vs.length ≤ 1000) (F : Fr g L s.heap m) (N : News g L s.heap news)
    (h : ∀ h' n', Fr g L h' m → News g L h' [(D, lst vs' n')] → Q .none { s with heap := h' }) :
    wpAny (model prog w) A (delItem (.ref D) (.int i u)) (fun _ s' => Q .none s') E s := by
  subst he
  have hD := N _ hm
  refine P.delItem_list (items := vs.toArray) (n := n) (hl := hD.1) hfit (by simpa using hk) ?_ (by rw [sizeLine_eq]; simp; omega)
  have hs : Heap.SameBut D s.heap (s.heap.update D (Obj.mapSeq fun xs => xs.eraseIdxIfInBounds k)) := Heap.SameBut.update ..
  have hg : (s.heap.update D (Obj.mapSeq fun xs => xs.eraseIdxIfInBounds k)).get? D = some _ := IsL.update hD.1 _
  have e : vs.toArray.eraseIdxIfInBounds k = (vs.eraseIdx k).toArray := by simp
  rw [e] at hg
  refine h _ (if ((vs.eraseIdx k).toArray.size == vs.toArray.size) = true then n else n + 1) (F.change hs hD.2.1 hD.2.2) ?_
  intro p hp
  rw [List.mem_singleton.mp hp]
  exact ⟨hg, hD.2⟩
end
section
variable {A : Around} {g : Heap} {L D : Addr} {m : Str → Option Value} {news : List (Addr × Obj)} {u : Tok}
theorem del0 {a : Value} {r : List Value} {n : Nat} (F : Fr g L s.heap m) (N : News g L s.heap news) (hm : (D, lst (a :: r) n) ∈ news) (hz : r.length ≤ 900) {R : Unit → Shared → Prop}
    (h : ∀ h' n', Fr g L h' m → News g L h' [(D, lst r n')] → R () { s with heap := h' }) : wpAny (model prog w) A (delItem (.ref D) (.int 0 u)) R E s :=
  delD (Q := fun _ s' => R () s') hm (by decide) (k := 0) (by simp [seqIndex?]) rfl (by simp; omega) F N h
theorem delA {a b : Value} {r : List Value} {n : Nat} (F : Fr g L s.heap m) (N : News g L s.heap news) (hm : (D, lst (a :: (r ++ [b])) n) ∈ news) (hz : r.length ≤ 900) {R : Unit → Shared → Prop}
    (h : ∀ h' n', Fr g L h' m → News g L h' [(D, lst (a :: r) n')] → R () { s with heap := h' }) : wpAny (model prog w) A (delItem (.ref D) (.int (-1) u)) R E s :=
  delD (Q := fun _ s' => R () s') hm (by decide) (k := r.length + 1) (by simp [seqIndex?]; omega) (by simp [List.eraseIdx_append_of_length_le]) (by simp; omega) F N h
theorem delB {b : Value} {r : List Value} {n : Nat} (F : Fr g L s.heap m) (N : News g L s.heap news) (hm : (D, lst (r ++ [b]) n) ∈ news) (hz : r.length ≤ 900) {R : Unit → Shared → Prop}
    (h : ∀ h' n', Fr g L h' m → News g L h' [(D, lst r n')] → R () { s with heap := h' }) : wpAny (model prog w) A (delItem (.ref D) (.int (-1) u)) R E s :=
  delD (Q := fun _ s' => R () s') hm (by decide) (k := r.length) (by simp [seqIndex?]; omega) (by simp [List.eraseIdx_append_of_length_le]) (by simp; omega) F N h
theorem lastB {value slice : Expr} {b : Value} {r : List Value} {n : Nat} (N : News g L s.heap news) (hm : (D, lst (r ++ [b]) n) ∈ news) (h : Q b s)
    (hs : subscripted slice false (.ref D) (.int (-1) u) = operate [.ref D, .int (-1) u] (getItem (.ref D) (.int (-1) u)) := by with_unfolding_all rfl) (hg : ∀ r, letTemporaryGo value (.ref D) r = pure () := by intro _; with_unfolding_all rfl) :
    wpAny (model prog w) A (subscriptTail value slice (.ref D) (.int (-1) u)) Q E s := by
  have hl := PySem.IsL.isList (N.get hm)
  exact subscriptTail_builtin hl.typeIs slot_list_getitem.lookup (wpAny_getItem_list_neg hl (by decide) (by simp; omega) (by decide) (by
    have e : ((-1 : Int) + ((r ++ [b]).toArray.size : Int)).toNat = r.length := by simp; omega
    rw [e]; simp) h) hs hg
theorem lastA {value slice : Expr} {a b : Value} {r : List Value} {n : Nat} (N : News g L s.heap news) (hm : (D, lst (a :: (r ++ [b])) n) ∈ news) (h : Q b s)
    (hs : subscripted slice false (.ref D) (.int (-1) u) = operate [.ref D, .int (-1) u] (getItem (.ref D) (.int (-1) u)) := by with_unfolding_all rfl) (hg : ∀ r, letTemporaryGo value (.ref D) r = pure () := by intro _; with_unfolding_all rfl) :
    wpAny (model prog w) A (subscriptTail value slice (.ref D) (.int (-1) u)) Q E s :=
  lastB (r := a :: r) N hm h hs hg
end
def efind (x y : Str) (i j : Int) : Int := match Builtin.Str.occurrences x y (fromIndex x.length i) (min (fromIndex x.length j) x.length) 1 with | k :: _ => (k : Int) | [] => -1
theorem gives_find4 (x y : Str) (i j : Int) (t u v z : Tok) : Gives (Builtin.«str.find» ⟨[.str x t, .str y u, .int i v, .int j z], []⟩) (.int (efind x y i j)) := by
  show Gives (match Builtin.Str.occurrences x y (fromIndex x.length i) (min (fromIndex x.length j) x.length) 1 with | k :: _ => retInt k | [] => (do rule "str.find.not-found"; retInt (-1))) _
  unfold efind
  cases Builtin.Str.occurrences x y (fromIndex x.length i) (min (fromIndex x.length j) x.length) 1 with
  | nil => exact .rule (.of_eq rfl)
  | cons k _ => exact .of_eq rfl
theorem find4 {A : Around} {x y : Str} {i j : Int} {t u v z : Tok} (hq : Q (.int (efind x y i j) s.toks) { s with toks := s.toks + 1 }) : wpAny (model prog w) A (call (.builtin "str.find") [.str x t, .str y u, .int i v, .int j z]) Q E s :=
  call_gives F.slot_str_find (typeIs_str _ _ _) F.entry_str_find (F.args_str_find_4 _ _ _ _) (gives_find4 x y i j t u v z) hq
def loopF (got : Str) (e : Int) : List Str → Int → Bool
  | [], _ => true
  | x :: r, i => if efind got x i e < 0 then false else loopF got e r (efind got x i e + x.length)
def emF (got w0 wl : Str) (mid : List Str) : Bool :=
  if w0.length ≠ 0 ∧ Txt.startswith got w0 = false then false
  else if wl.length ≠ 0 ∧ Txt.endswith got wl = false then false
  else
    let a : Int := if w0.length = 0 then 0 else w0.length
    let e : Int := if wl.length = 0 then got.length else got.length - wl.length
    if e < a then false else loopF got e ((if w0.length = 0 then [w0] else []) ++ mid ++ (if wl.length = 0 then [wl] else [])) a
theorem loopF_drop {got x : Str} {e : Int} {rest : List Str} {i : Nat} {pos : Int} (h : rest[i]? = some x) : loopF got e (rest.drop i) pos = if efind got x pos e < 0 then false else loopF got e (rest.drop (i + 1)) (efind got x pos e + x.length) := by
  obtain ⟨hi, rfl⟩ := List.getElem?_eq_some_iff.mp h
  rw [List.drop_eq_getElem_cons hi]; rfl
theorem truthyE {A : Around} {x : Str} {t : Tok} {b : Bool} {Q : Bool → Shared → Prop} (e : ((x.length : Int) != 0) = b) (hl : x.length ≤ 1000) (h : ∀ k, Q b { s with toks := k }) : wpAny (model prog w) A (truthy (.str x t)) Q E s := by
  subst e; exact P.truthy_str (by omega) (h _)
set_option maxRecDepth 100000 in
set_option maxHeartbeats 8000000 in
set_option pp.deepTerms false in
set_option pp.deepTerms.threshold 8 in
theorem em_plain {want got : Str} {t u : Tok} (X : (KK w.params).In s.heap) (T : Top p loose mean mg mb s.heap) (hroom : dp + 5 < recursionLimit) (hun : un + 30 < cLine)
    (hc : Txt.contains want dots = false)
    (hret : ∀ h' tk', Ext s.heap h' → Q (.bool (want == got)) { s with heap := h', toks := tk' }) :
    wpAny (model prog w) (AA dp un gd fr) (call (.ref 63) [.str want t, .str got u]) Q E s := by
  refine wpAny_call ?_
  refine enter (binds := [(Str.ofString "want", .str want t), (Str.ofString "got", .str got u)]) X T.nolimit (by k_is) (by k_is) (by show dp < recursionLimit; omega) (BindsTo.of_eq rfl) (locs rfl) ?_ rfl rfl rfl (by decide)
  intro L h₁ F
  have N : News s.heap L h₁ [] := News.nil
  (try dsimp only)
  repeat' (first | ((with_reducible show wpAny _ _ (compareOp CmpOp.Eq (Value.str _ _) (Value.str _ _)) _ _ _); (k_dflt (refine eqE rfl ?_))) | ((with_reducible show wpAny _ _ (compareOp CmpOp.NotIn (Value.str _ _) (Value.str _ _)) _ _ _); (k_dflt (refine notInE (by assumption) ?_))) | walk1 | (dsimp only; walk1) | fail "no step")
  exact hret _ _ F.keep
def emS : Option Stmt := nth 10 PySem.Challenge.pw_qu0053_01.main.body
inductive EmJ (got : Str) (e a : Int) (ws : List Str) (i : Nat) (m : Str → Option Value) : Prop
  | mk (pos : Int) (t0 t1 t2 : Tok) : m (Str.ofString "startpos") = some (.int pos t0) → m (Str.ofString "endpos") = some (.int e t1) → m (Str.ofString "got") = some (.str got t2) → loopF got e (ws.drop i) pos = loopF got e ws a → EmJ got e a ws i m
set_option maxRecDepth 100000 in
set_option maxHeartbeats 8000000 in
set_option pp.deepTerms false in
set_option pp.deepTerms.threshold 8 in
theorem em_tail {got : Str} {e a : Int} {ws : List Str} {ys : List Value} {D L fa : Addr} {n : Nat} {cd : Value} {m : Str → Option Value} {g : Heap} {t1 t2 t3 : Tok} {Q : Flow → Shared → Prop} {E : Value → Shared → Prop}
    (X : (KK w.params).In g) (T : Top p loose mean mg mb g) (F : Fr g L s.heap m) (N : News g L s.heap [(D, lst ys n)]) (hun : un + 20 < cLine)
    (m1 : m (Str.ofString "startpos") = some (.int a t1)) (m2 : m (Str.ofString "endpos") = some (.int e t2)) (m3 : m (Str.ofString "got") = some (.str got t3)) (m4 : m (Str.ofString "ws") = some (.ref D))
    (hR : All2 (fun x v => ∃ t, v = Value.str x t) ws ys) (hlens : ∀ x ∈ ws, x.length ≤ 20) (hl2 : got.length ≤ 20)
    (hret : ∀ h' tk', Ext g h' → Q (.ret (.bool (loopF got e ws a))) { s with heap := h', toks := tk' }) :
    wpAny (model prog w) (AA dp un gd fr) (execs ((bodyOf emS).drop 9) (envOf (Str.ofString "_ellipsis_match") (scopeOf emS) L fa cd)) Q E s := by
  dsimp only [emS, nth, bodyOf, scopeOf, PySem.Challenge.pw_qu0053_01, List.drop]
  repeat' (first | ((with_reducible show wpAny _ _ (exec (Stmt.For (PySem.Expr.Name _ _) (PySem.Expr.Name _ _) _ [] _) _) _ _ _); (refine stop_of ?_)) | ((with_reducible show wpAny _ _ (call (Value.builtin "str.find") _) _ _ _); (k_dflt (refine find4 ?_))) | ((with_reducible show wpAny _ _ (call (Value.builtin "len") _) _ _ _); ((with_reducible show wpAny _ _ (call _ [Value.str _ _]) _ _ _); k_dflt (refine P.len_str (by omega) ?_))) | ((with_reducible show wpAny _ _ (eval (PySem.Expr.Name _ _) _) _ _ _); (k_dflt (refine ld (by assumption) (by assumption) ?_))) | ((with_reducible show wpAny _ _ (compareOp CmpOp.Eq (Value.str _ _) (Value.str _ _)) _ _ _); (k_dflt (refine eqE rfl ?_))) | ((with_reducible show wpAny _ _ (compareOp CmpOp.NotIn (Value.str _ _) (Value.str _ _)) _ _ _); (k_dflt (refine notInE (by assumption) ?_))) | walk1 | (dsimp only; walk1) | fail "no step")
  refine ⟨?_⟩
  refine for_loc (α := Str) (g := g) (J := EmJ got e a ws) ?_ rfl rfl rfl
  (try dsimp only)
  repeat' (first | ((with_reducible show wpAny _ _ (exec (Stmt.For (PySem.Expr.Name _ _) (PySem.Expr.Name _ _) _ [] _) _) _ _ _); (refine stop_of ?_)) | ((with_reducible show wpAny _ _ (call (Value.builtin "str.find") _) _ _ _); (k_dflt (refine find4 ?_))) | ((with_reducible show wpAny _ _ (call (Value.builtin "len") _) _ _ _); ((with_reducible show wpAny _ _ (call _ [Value.str _ _]) _ _ _); k_dflt (refine P.len_str (by omega) ?_))) | ((with_reducible show wpAny _ _ (eval (PySem.Expr.Name _ _) _) _ _ _); (k_dflt (refine ld (by assumption) (by assumption) ?_))) | ((with_reducible show wpAny _ _ (compareOp CmpOp.Eq (Value.str _ _) (Value.str _ _)) _ _ _); (k_dflt (refine eqE rfl ?_))) | ((with_reducible show wpAny _ _ (compareOp CmpOp.NotIn (Value.str _ _) (Value.str _ _)) _ _ _); (k_dflt (refine notInE (by assumption) ?_))) | walk1 | (dsimp only; walk1) | fail "no step")
  refine ⟨⟨ws, (fun x v => ∃ t, v = Value.str x t), _, _, _, _, _, rfl, .head _, hR, F, N, ⟨a, _, _, _, m1, m2, m3, by rw [List.drop_zero]⟩, ?turn, ?fin⟩⟩
  case turn =>
    intro i x v m I oI H tk E' hd hR F2 N2 hJ
    obtain ⟨tx, rfl⟩ := hR
    obtain ⟨pos, t0', t1', t2', m1, m2, m3, hlp⟩ := hJ
    have hlp := (loopF_drop hd).symm.trans hlp
    have m1' : (fun z => if z = Str.ofString "w" then some (Value.str x tx) else m z) (Str.ofString "startpos") = some (.int pos t0') := by
      show (if _ then _ else _) = _; rw [if_neg (by decide)]; exact m1
    have m2' : (fun z => if z = Str.ofString "w" then some (Value.str x tx) else m z) (Str.ofString "endpos") = some (.int e t1') := by
      show (if _ then _ else _) = _; rw [if_neg (by decide)]; exact m2
    have m3' : (fun z => if z = Str.ofString "w" then some (Value.str x tx) else m z) (Str.ofString "got") = some (.str got t2') := by
      show (if _ then _ else _) = _; rw [if_neg (by decide)]; exact m3
    have m4' : (fun z => if z = Str.ofString "w" then some (Value.str x tx) else m z) (Str.ofString "w") = some (.str x tx) := by
      show (if _ then _ else _) = _; rw [if_pos rfl]
    generalize (fun z => if z = Str.ofString "w" then some (Value.str x tx) else m z) = m5 at *
    have hxl : x.length ≤ 20 := hlens x (List.mem_of_getElem? hd)
    clear N F m1 m2 m3 m4 hlens
    (try dsimp only)
    repeat' (first | ((with_reducible show wpAny _ _ (exec (Stmt.For (PySem.Expr.Name _ _) (PySem.Expr.Name _ _) _ [] _) _) _ _ _); (refine stop_of ?_)) | ((with_reducible show wpAny _ _ (call (Value.builtin "str.find") _) _ _ _); (k_dflt (refine find4 ?_))) | ((with_reducible show wpAny _ _ (call (Value.builtin "len") _) _ _ _); ((with_reducible show wpAny _ _ (call _ [Value.str _ _]) _ _ _); k_dflt (refine P.len_str (by omega) ?_))) | ((with_reducible show wpAny _ _ (eval (PySem.Expr.Name _ _) _) _ _ _); (k_dflt (refine ld (by assumption) (by assumption) ?_))) | ((with_reducible show wpAny _ _ (compareOp CmpOp.Eq (Value.str _ _) (Value.str _ _)) _ _ _); (k_dflt (refine eqE rfl ?_))) | ((with_reducible show wpAny _ _ (compareOp CmpOp.NotIn (Value.str _ _) (Value.str _ _)) _ _ _); (k_dflt (refine notInE (by assumption) ?_))) | walk1 | (dsimp only; walk1) | fail "no step")
    · rename efind _ _ _ _ < 0 => q
      rw [if_pos q] at hlp
      rw [← hlp] at hret
      exact Stop.mk (hret _ _ (Fr.keep (by assumption)))
    · rename ¬ (efind _ _ _ _ < 0) => q
      rw [if_neg q] at hlp
      rename Fr _ _ _ _ => F3
      rename News _ _ _ _ => N3
      exact Stop.mk ⟨_, _, _, rfl, F3, N3, _, _, _, _, rfl, m2', m3', hlp⟩
  case fin =>
    intro m H tk F2 N2 hJ
    obtain ⟨pos, t0', t1', t2', m1, m2, m3, hlp⟩ := hJ
    rw [List.drop_length] at hlp
    have hlp : true = loopF got e ws a := hlp
    have FK := F.keep
    clear N F
    (try dsimp only)
    repeat' (first | ((with_reducible show wpAny _ _ (exec (Stmt.For (PySem.Expr.Name _ _) (PySem.Expr.Name _ _) _ [] _) _) _ _ _); (refine stop_of ?_)) | ((with_reducible show wpAny _ _ (call (Value.builtin "str.find") _) _ _ _); (k_dflt (refine find4 ?_))) | ((with_reducible show wpAny _ _ (call (Value.builtin "len") _) _ _ _); ((with_reducible show wpAny _ _ (call _ [Value.str _ _]) _ _ _); k_dflt (refine P.len_str (by omega) ?_))) | ((with_reducible show wpAny _ _ (eval (PySem.Expr.Name _ _) _) _ _ _); (k_dflt (refine ld (by assumption) (by assumption) ?_))) | ((with_reducible show wpAny _ _ (compareOp CmpOp.Eq (Value.str _ _) (Value.str _ _)) _ _ _); (k_dflt (refine eqE rfl ?_))) | ((with_reducible show wpAny _ _ (compareOp CmpOp.NotIn (Value.str _ _) (Value.str _ _)) _ _ _); (k_dflt (refine notInE (by assumption) ?_))) | walk1 | (dsimp only; walk1) | fail "no step")
    rw [← hlp] at hret
    exact hret _ _ F2.keep
set_option maxRecDepth 100000 in
set_option maxHeartbeats 8000000 in
set_option pp.deepTerms false in
set_option pp.deepTerms.threshold 8 in
theorem em_dots {want got w0 wl : Str} {mid : List Str} {t u : Tok} (X : (KK w.params).In s.heap) (T : Top p loose mean mg mb s.heap) (hroom : dp + 5 < recursionLimit) (hun : un + 30 < cLine)
    (hc : Txt.contains want dots = true) (hs : Txt.split want dots = w0 :: (mid ++ [wl])) (hmid : mid.length ≤ 10) (hlens : ∀ x ∈ w0 :: (mid ++ [wl]), x.length ≤ 20) (hl1 : want.length ≤ 20) (hl2 : got.length ≤ 20)
    (hret : ∀ h' tk', Ext s.heap h' → Q (.bool (emF got w0 wl mid)) { s with heap := h', toks := tk' }) :
    wpAny (model prog w) (AA dp un gd fr) (call (.ref 63) [.str want t, .str got u]) Q E s := by
  refine wpAny_call ?_
  refine enter (binds := [(Str.ofString "want", .str want t), (Str.ofString "got", .str got u)]) X T.nolimit (by k_is) (by k_is) (by show dp < recursionLimit; omega) (BindsTo.of_eq rfl) (locs rfl) ?_ rfl rfl rfl (by decide)
  intro L h₁ F
  have N : News s.heap L h₁ [] := News.nil
  have hl0 : w0.length ≤ 20 := hlens w0 (.head _)
  have hl3 : wl.length ≤ 20 := hlens wl (by simp)
  by_cases h0 : w0.length = 0
  · have t0 : ((w0.length : Int) != 0) = false := by simp [h0]
    by_cases h9 : wl.length = 0
    · have t9 : ((wl.length : Int) != 0) = false := by simp [h9]
      (try dsimp only)
      repeat' (first | ((with_reducible show wpAny _ _ (execs (Stmt.For _ _ _ _ _ :: _) _) _ _ _); refine stop_of ?_) | ((with_reducible show wpAny _ _ (subscriptTail _ _ _ _) _ _ _); ((fail_if_success (with_reducible show wpAny _ _ (subscriptTail _ _ _ (Value.int 0 _)) _ _ _)); k_dflt (first | refine lastA (by assumption) (by k_mem) ?_ | refine lastB (by assumption) (by k_mem) ?_))) | ((with_reducible show wpAny _ _ (delItem (Value.ref _) (Value.int _ _)) _ _ _); (first | ((with_reducible show wpAny _ _ (delItem _ (Value.int 0 _)) _ _ _); k_dflt (refine del0 (by assumption) (by assumption) (by k_mem) (by simp; omega) ?_)) | ((fail_if_success (with_reducible show wpAny _ _ (delItem _ (Value.int 0 _)) _ _ _)); k_dflt (first | refine delA (by assumption) (by assumption) (by k_mem) (by omega) ?_ | refine delB (by assumption) (by assumption) (by k_mem) (by omega) ?_)); intro _ _ _ _)) | ((with_reducible show wpAny _ _ (truthy (Value.str _ _)) _ _ _); (k_dflt (refine truthyE (by assumption) (by omega) ?_); intro _)) | ((with_reducible show (@ite Prop _ _ _ _)); (k_dflt (refine iteT (by first | assumption | (simp; omega)) ?_))) | ((with_reducible show wpAny _ _ (call (Value.builtin "len") _) _ _ _); (k_dflt (refine lenD (IsL.isList (News.get (by assumption) (.head _))) (by simp; omega) ?_))) | ((with_reducible show wpAny _ _ (call (Value.builtin "str.split") _) _ _ _); (k_dflt (refine splitD (by assumption) rfl (by rw [sizeLine_eq]; omega) (by assumption) (by assumption) ?_); intro D' t0' mv' tl' h' k' hmv' F' N' off'; have hml' := All2.length hmv')) | ((with_reducible show wpAny _ _ (exec (Stmt.For (PySem.Expr.Name _ _) (PySem.Expr.Name _ _) _ [] _) _) _ _ _); (refine stop_of ?_)) | ((with_reducible show wpAny _ _ (call (Value.builtin "str.find") _) _ _ _); (k_dflt (refine find4 ?_))) | ((with_reducible show wpAny _ _ (call (Value.builtin "len") _) _ _ _); ((with_reducible show wpAny _ _ (call _ [Value.str _ _]) _ _ _); k_dflt (refine P.len_str (by omega) ?_))) | ((with_reducible show wpAny _ _ (eval (PySem.Expr.Name _ _) _) _ _ _); (k_dflt (refine ld (by assumption) (by assumption) ?_))) | ((with_reducible show wpAny _ _ (compareOp CmpOp.Eq (Value.str _ _) (Value.str _ _)) _ _ _); (k_dflt (refine eqE rfl ?_))) | ((with_reducible show wpAny _ _ (compareOp CmpOp.NotIn (Value.str _ _) (Value.str _ _)) _ _ _); (k_dflt (refine notInE (by assumption) ?_))) | walk1 | (dsimp only; walk1) | fail "no step")
      have hemf : emF got w0 wl mid = loopF got (got.length : Int) (w0 :: (mid ++ [wl])) (0 : Int) := by simp [emF, h0, h9]
      rw [hemf] at hret
      refine ⟨?_⟩
      rename Fr _ _ _ _ => F9
      rename News _ _ _ _ => N9
      exact em_tail (ws := w0 :: (mid ++ [wl])) X T F9 (fun p hp => by rw [List.mem_singleton.mp hp]; exact N9 _ (by k_mem)) (by show un + 3 + 20 < cLine; omega) rfl rfl rfl rfl (.cons ⟨_, rfl⟩ (All2.snoc (by assumption) ⟨_, rfl⟩)) (fun x hx => hlens x hx) hl2 hret
    · have t9 : ((wl.length : Int) != 0) = true := by simp; omega
      (try dsimp only)
      repeat' (first | ((with_reducible show wpAny _ _ (execs (Stmt.For _ _ _ _ _ :: _) _) _ _ _); refine stop_of ?_) | ((with_reducible show wpAny _ _ (subscriptTail _ _ _ _) _ _ _); ((fail_if_success (with_reducible show wpAny _ _ (subscriptTail _ _ _ (Value.int 0 _)) _ _ _)); k_dflt (first | refine lastA (by assumption) (by k_mem) ?_ | refine lastB (by assumption) (by k_mem) ?_))) | ((with_reducible show wpAny _ _ (delItem (Value.ref _) (Value.int _ _)) _ _ _); (first | ((with_reducible show wpAny _ _ (delItem _ (Value.int 0 _)) _ _ _); k_dflt (refine del0 (by assumption) (by assumption) (by k_mem) (by simp; omega) ?_)) | ((fail_if_success (with_reducible show wpAny _ _ (delItem _ (Value.int 0 _)) _ _ _)); k_dflt (first | refine delA (by assumption) (by assumption) (by k_mem) (by omega) ?_ | refine delB (by assumption) (by assumption) (by k_mem) (by omega) ?_)); intro _ _ _ _)) | ((with_reducible show wpAny _ _ (truthy (Value.str _ _)) _ _ _); (k_dflt (refine truthyE (by assumption) (by omega) ?_); intro _)) | ((with_reducible show (@ite Prop _ _ _ _)); (k_dflt (refine iteT (by first | assumption | (simp; omega)) ?_))) | ((with_reducible show wpAny _ _ (call (Value.builtin "len") _) _ _ _); (k_dflt (refine lenD (IsL.isList (News.get (by assumption) (.head _))) (by simp; omega) ?_))) | ((with_reducible show wpAny _ _ (call (Value.builtin "str.split") _) _ _ _); (k_dflt (refine splitD (by assumption) rfl (by rw [sizeLine_eq]; omega) (by assumption) (by assumption) ?_); intro D' t0' mv' tl' h' k' hmv' F' N' off'; have hml' := All2.length hmv')) | ((with_reducible show wpAny _ _ (exec (Stmt.For (PySem.Expr.Name _ _) (PySem.Expr.Name _ _) _ [] _) _) _ _ _); (refine stop_of ?_)) | ((with_reducible show wpAny _ _ (call (Value.builtin "str.find") _) _ _ _); (k_dflt (refine find4 ?_))) | ((with_reducible show wpAny _ _ (call (Value.builtin "len") _) _ _ _); ((with_reducible show wpAny _ _ (call _ [Value.str _ _]) _ _ _); k_dflt (refine P.len_str (by omega) ?_))) | ((with_reducible show wpAny _ _ (eval (PySem.Expr.Name _ _) _) _ _ _); (k_dflt (refine ld (by assumption) (by assumption) ?_))) | ((with_reducible show wpAny _ _ (compareOp CmpOp.Eq (Value.str _ _) (Value.str _ _)) _ _ _); (k_dflt (refine eqE rfl ?_))) | ((with_reducible show wpAny _ _ (compareOp CmpOp.NotIn (Value.str _ _) (Value.str _ _)) _ _ _); (k_dflt (refine notInE (by assumption) ?_))) | walk1 | (dsimp only; walk1) | fail "no step")
      all_goals try
        (have hf : emF got w0 wl mid = false := by
          first
            | (rename Txt.startswith _ _ = false => q; simp [emF, h0, h9, q])
            | (rename Txt.endswith _ _ = false => q; simp [emF, h0, h9, q])
            | (rename (_ : Int) < _ => q; simp [emF, h0, h9, q])
         rw [hf] at hret
         exact hret _ _ (Fr.keep (by assumption)))
      rename Txt.endswith _ _ = true => qe
      rename ¬ ((_ : Int) < _) => qn
      have hemf : emF got w0 wl mid = loopF got (got.length - wl.length : Int) (w0 :: mid) (0 : Int) := by simp [emF, h0, h9, qe, qn]
      rw [hemf] at hret
      refine ⟨?_⟩
      rename Fr _ _ _ _ => F9
      rename News _ _ _ _ => N9
      exact em_tail (ws := w0 :: mid) X T F9 (fun p hp => by rw [List.mem_singleton.mp hp]; exact N9 _ (by k_mem)) (by show un + 3 + 20 < cLine; omega) rfl rfl rfl rfl (.cons ⟨_, rfl⟩ (by assumption)) (fun x hx => hlens x (by rcases List.mem_cons.mp hx with h | h <;> simp [h])) hl2 hret
  · have t0 : ((w0.length : Int) != 0) = true := by simp; omega
    by_cases h9 : wl.length = 0
    · have t9 : ((wl.length : Int) != 0) = false := by simp [h9]
      (try dsimp only)
      repeat' (first | ((with_reducible show wpAny _ _ (execs (Stmt.For _ _ _ _ _ :: _) _) _ _ _); refine stop_of ?_) | ((with_reducible show wpAny _ _ (subscriptTail _ _ _ _) _ _ _); ((fail_if_success (with_reducible show wpAny _ _ (subscriptTail _ _ _ (Value.int 0 _)) _ _ _)); k_dflt (first | refine lastA (by assumption) (by k_mem) ?_ | refine lastB (by assumption) (by k_mem) ?_))) | ((with_reducible show wpAny _ _ (delItem (Value.ref _) (Value.int _ _)) _ _ _); (first | ((with_reducible show wpAny _ _ (delItem _ (Value.int 0 _)) _ _ _); k_dflt (refine del0 (by assumption) (by assumption) (by k_mem) (by simp; omega) ?_)) | ((fail_if_success (with_reducible show wpAny _ _ (delItem _ (Value.int 0 _)) _ _ _)); k_dflt (first | refine delA (by assumption) (by assumption) (by k_mem) (by omega) ?_ | refine delB (by assumption) (by assumption) (by k_mem) (by omega) ?_)); intro _ _ _ _)) | ((with_reducible show wpAny _ _ (truthy (Value.str _ _)) _ _ _); (k_dflt (refine truthyE (by assumption) (by omega) ?_); intro _)) | ((with_reducible show (@ite Prop _ _ _ _)); (k_dflt (refine iteT (by first | assumption | (simp; omega)) ?_))) | ((with_reducible show wpAny _ _ (call (Value.builtin "len") _) _ _ _); (k_dflt (refine lenD (IsL.isList (News.get (by assumption) (.head _))) (by simp; omega) ?_))) | ((with_reducible show wpAny _ _ (call (Value.builtin "str.split") _) _ _ _); (k_dflt (refine splitD (by assumption) rfl (by rw [sizeLine_eq]; omega) (by assumption) (by assumption) ?_); intro D' t0' mv' tl' h' k' hmv' F' N' off'; have hml' := All2.length hmv')) | ((with_reducible show wpAny _ _ (exec (Stmt.For (PySem.Expr.Name _ _) (PySem.Expr.Name _ _) _ [] _) _) _ _ _); (refine stop_of ?_)) | ((with_reducible show wpAny _ _ (call (Value.builtin "str.find") _) _ _ _); (k_dflt (refine find4 ?_))) | ((with_reducible show wpAny _ _ (call (Value.builtin "len") _) _ _ _); ((with_reducible show wpAny _ _ (call _ [Value.str _ _]) _ _ _); k_dflt (refine P.len_str (by omega) ?_))) | ((with_reducible show wpAny _ _ (eval (PySem.Expr.Name _ _) _) _ _ _); (k_dflt (refine ld (by assumption) (by assumption) ?_))) | ((with_reducible show wpAny _ _ (compareOp CmpOp.Eq (Value.str _ _) (Value.str _ _)) _ _ _); (k_dflt (refine eqE rfl ?_))) | ((with_reducible show wpAny _ _ (compareOp CmpOp.NotIn (Value.str _ _) (Value.str _ _)) _ _ _); (k_dflt (refine notInE (by assumption) ?_))) | walk1 | (dsimp only; walk1) | fail "no step")
      all_goals try
        (have hf : emF got w0 wl mid = false := by
          first
            | (rename Txt.startswith _ _ = false => q; simp [emF, h0, h9, q])
            | (rename Txt.endswith _ _ = false => q; simp [emF, h0, h9, q])
            | (rename (_ : Int) < _ => q; simp [emF, h0, h9, q])
         rw [hf] at hret
         exact hret _ _ (Fr.keep (by assumption)))
      rename Txt.startswith _ _ = true => qs
      rename ¬ ((_ : Int) < _) => qn
      have hemf : emF got w0 wl mid = loopF got (got.length : Int) ((mid ++ [wl])) (w0.length : Int) := by simp [emF, h0, h9, qs, qn]
      rw [hemf] at hret
      refine ⟨?_⟩
      rename Fr _ _ _ _ => F9
      rename News _ _ _ _ => N9
      exact em_tail (ws := (mid ++ [wl])) X T F9 (fun p hp => by rw [List.mem_singleton.mp hp]; exact N9 _ (by k_mem)) (by show un + 3 + 20 < cLine; omega) rfl rfl rfl rfl (All2.snoc (by assumption) ⟨_, rfl⟩) (fun x hx => hlens x (.tail _ hx)) hl2 hret
    · have t9 : ((wl.length : Int) != 0) = true := by simp; omega
      (try dsimp only)
      repeat' (first | ((with_reducible show wpAny _ _ (execs (Stmt.For _ _ _ _ _ :: _) _) _ _ _); refine stop_of ?_) | ((with_reducible show wpAny _ _ (subscriptTail _ _ _ _) _ _ _); ((fail_if_success (with_reducible show wpAny _ _ (subscriptTail _ _ _ (Value.int 0 _)) _ _ _)); k_dflt (first | refine lastA (by assumption) (by k_mem) ?_ | refine lastB (by assumption) (by k_mem) ?_))) | ((with_reducible show wpAny _ _ (delItem (Value.ref _) (Value.int _ _)) _ _ _); (first | ((with_reducible show wpAny _ _ (delItem _ (Value.int 0 _)) _ _ _); k_dflt (refine del0 (by assumption) (by assumption) (by k_mem) (by simp; omega) ?_)) | ((fail_if_success (with_reducible show wpAny _ _ (delItem _ (Value.int 0 _)) _ _ _)); k_dflt (first | refine delA (by assumption) (by assumption) (by k_mem) (by omega) ?_ | refine delB (by assumption) (by assumption) (by k_mem) (by omega) ?_)); intro _ _ _ _)) | ((with_reducible show wpAny _ _ (truthy (Value.str _ _)) _ _ _); (k_dflt (refine truthyE (by assumption) (by omega) ?_); intro _)) | ((with_reducible show (@ite Prop _ _ _ _)); (k_dflt (refine iteT (by first | assumption | (simp; omega)) ?_))) | ((with_reducible show wpAny _ _ (call (Value.builtin "len") _) _ _ _); (k_dflt (refine lenD (IsL.isList (News.get (by assumption) (.head _))) (by simp; omega) ?_))) | ((with_reducible show wpAny _ _ (call (Value.builtin "str.split") _) _ _ _); (k_dflt (refine splitD (by assumption) rfl (by rw [sizeLine_eq]; omega) (by assumption) (by assumption) ?_); intro D' t0' mv' tl' h' k' hmv' F' N' off'; have hml' := All2.length hmv')) | ((with_reducible show wpAny _ _ (exec (Stmt.For (PySem.Expr.Name _ _) (PySem.Expr.Name _ _) _ [] _) _) _ _ _); (refine stop_of ?_)) | ((with_reducible show wpAny _ _ (call (Value.builtin "str.find") _) _ _ _); (k_dflt (refine find4 ?_))) | ((with_reducible show wpAny _ _ (call (Value.builtin "len") _) _ _ _); ((with_reducible show wpAny _ _ (call _ [Value.str _ _]) _ _ _); k_dflt (refine P.len_str (by omega) ?_))) | ((with_reducible show wpAny _ _ (eval (PySem.Expr.Name _ _) _) _ _ _); (k_dflt (refine ld (by assumption) (by assumption) ?_))) | ((with_reducible show wpAny _ _ (compareOp CmpOp.Eq (Value.str _ _) (Value.str _ _)) _ _ _); (k_dflt (refine eqE rfl ?_))) | ((with_reducible show wpAny _ _ (compareOp CmpOp.NotIn (Value.str _ _) (Value.str _ _)) _ _ _); (k_dflt (refine notInE (by assumption) ?_))) | walk1 | (dsimp only; walk1) | fail "no step")
      all_goals try
        (have hf : emF got w0 wl mid = false := by
          first
            | (rename Txt.startswith _ _ = false => q; simp [emF, h0, h9, q])
            | (rename Txt.endswith _ _ = false => q; simp [emF, h0, h9, q])
            | (rename (_ : Int) < _ => q; simp [emF, h0, h9, q])
         rw [hf] at hret
         exact hret _ _ (Fr.keep (by assumption)))
      rename Txt.startswith _ _ = true => qs
      rename Txt.endswith _ _ = true => qe
      rename ¬ ((_ : Int) < _) => qn
      have hemf : emF got w0 wl mid = loopF got (got.length - wl.length : Int) (mid) (w0.length : Int) := by simp [emF, h0, h9, qs, qe, qn]
      rw [hemf] at hret
      refine ⟨?_⟩
      rename Fr _ _ _ _ => F9
      rename News _ _ _ _ => N9
      exact em_tail (ws := mid) X T F9 (fun p hp => by rw [List.mem_singleton.mp hp]; exact N9 _ (by k_mem)) (by show un + 3 + 20 < cLine; omega) rfl rfl rfl rfl (by assumption) (fun x hx => hlens x (by simp [hx])) hl2 hret
end Mine
end PartF14

section PartM3
open PySem PySem.W PyProof.Rows PySem.Calls
namespace Mine
def sgF (i : Int) : Str := if i = 0 then Str.ofString "<" else if i = 1 then Str.ofString ">" else if i = 2 then Str.ofString "*" else Str.ofString "/"
def toldF (i : Int) : List Int :=
  if i = 0 then [20, 33, 29, 44, 27, 11] else if i = 1 then [21, 34, 30, 45, 27, 11] else if i = 2 then [16, 35, 38, 46, 27, 11] else [17, 47, 39, 48, 27, 11]
def opF (i : Int) (k : Nat) : Str := [sgF i, sgF i ++ sgF i, sgF i ++ eqs, sgF i ++ sgF i ++ eqs, eqs ++ eqs, Str.ofString ":"].getD k eqs
def resF (want got : Str) : Bool :=
  if Txt.contains want dots then
    match Txt.split want dots with
    | w0 :: r => emF got w0 (r.getLastD w0) r.dropLast
    | [] => false
  else want == got
def okPat (want : Str) : Bool := decide (want.length ≤ 20) && (!Txt.contains want dots || match Txt.split want dots with
    | w0 :: r => !r.isEmpty && decide (r.length ≤ 10) && (w0 :: r).all fun x => decide (x.length ≤ 20)
    | [] => false)
def patAt (c i : Int) (m : Nat) : Str := (patF c (sgF i)).getD m dots
def tkAt (c : Int) (m : Nat) (k : Int) : Bool := ((tkF c).getD m []).any (· == k)
theorem cells : ∀ i ∈ ([0, 1, 2, 3] : List Int), ∀ c ∈ ([0, 1, 2, 3] : List Int), ∀ m ∈ [0, 1, 2, 3], okPat (patAt c i m) = true ∧ ∀ k ∈ [0, 1, 2, 3, 4, 5], (opF i k).length ≤ 20 ∧ resF (patAt c i m) (opF i k) = tkAt c m (k : Int) := by decide +kernel
end Mine
end PartM3

section PartM4
open PySem
namespace Mine
def s4 (f : Nat → Nat) : Nat := f 0 + f 1 + f 2 + f 3
theorem s4_congr {f g : Nat → Nat} (h : ∀ j, j < 4 → f j = g j) : s4 f = s4 g := by
  unfold s4; rw [h 0 (by omega), h 1 (by omega), h 2 (by omega), h 3 (by omega)]
def put (u : Nat → Bool) (j : Nat) : Nat → Bool := fun x => x == j || u x
theorem put_comm (u : Nat → Bool) (i j : Nat) : put (put u i) j = put (put u j) i := by
  funext x; simp only [put]; cases x == i <;> cases x == j <;> simp
/-- ways that go on from the used columns u, s of them, and end with k -/
def ek : List (List Bool) → (Nat → Bool) → Nat → Nat → Nat
  | [], _, s, k => if s = k then 1 else 0
  | r :: rs, u, s, k => ek rs u s k + s4 fun j => if (r.getD j false && !u j) = true then ek rs (put u j) (s + 1) k else 0
def usedBy (w : List Int) : Nat → Bool := fun x => w.any (· == (x : Int))
theorem usedBy_snoc (w : List Int) (j : Nat) : usedBy (w ++ [(j : Int)]) = put (usedBy w) j := by
  funext x
  simp only [usedBy, put, List.any_append, List.any_cons, List.any_nil, Bool.or_false]
  have : ((j : Int) == (x : Int)) = (x == j) := by
    by_cases h : x = j
    · rw [h, beq_self_eq_true, beq_self_eq_true]
    · have h2 : ¬ (j : Int) = (x : Int) := by omega
      rw [beq_eq_false_iff_ne.mpr h, beq_eq_false_iff_ne.mpr h2]
  rw [this, Bool.or_comm]
theorem sum_filter4 (p : Nat → Bool) (f : Nat → Nat) : (((List.range 4).filter p).map f).sum = s4 fun j => if p j = true then f j else 0 := by
  have : List.range 4 = [0, 1, 2, 3] := rfl
  rw [this]
  simp only [List.filter_cons, List.filter_nil, s4]
  cases p 0 <;> cases p 1 <;> cases p 2 <;> cases p 3 <;> simp [Nat.add_assoc]
theorem ways_sum (k : Nat) : ∀ (rows : List (List Bool)) (W : List (List Int)), ((rows.foldl waysStep W).map fun w => if w.length = k then 1 else 0).sum = (W.map fun w => ek rows (usedBy w) w.length k).sum := by
  intro rows
  induction rows with
  | nil => intro W; rfl
  | cons r rs ih =>
    intro W
    rw [List.foldl_cons, ih]
    simp only [waysStep, List.map_append, List.sum_append, List.map_map]
    have key : ((pairsOf (okAt r) W).map ((fun w => ek rs (usedBy w) w.length k) ∘ fun p => p.1 ++ [(p.2 : Int)])).sum = (W.map fun w => s4 fun j => if (r.getD j false && !usedBy w j) = true then ek rs (put (usedBy w) j) (w.length + 1) k else 0).sum := by
      induction W with
      | nil => rfl
      | cons w W ihW =>
        simp only [pairsOf, List.flatMap_cons, List.map_append, List.sum_append, List.map_cons, List.sum_cons, List.map_map] at ihW ⊢
        rw [ihW]
        congr 1
        rw [← sum_filter4]
        congr 1
        refine List.map_congr_left fun j _ => ?_
        simp only [Function.comp, usedBy_snoc, List.length_append, List.length_singleton]
    rw [key]
    clear ih key
    induction W with
    | nil => rfl
    | cons w W ihW => simp only [List.map_cons, List.sum_cons, ek] at ihW ⊢; omega
theorem count_len (k : Nat) (L : List (List Int)) : ((L.map fun w => (w.length : Int)).count (k : Int)) = (L.map fun w => if w.length = k then 1 else 0).sum := by
  induction L with
  | nil => rfl
  | cons w L ih =>
    simp only [List.map_cons, List.count_cons, List.sum_cons, ih]
    by_cases h : w.length = k
    · simp [h]; omega
    · have : ¬ (w.length : Int) = (k : Int) := by omega
      simp [h, this]
def rk (rows : List (List Bool)) (k : Nat) : Nat := ek rows (fun _ => false) 0 k
theorem sizes_count (rows : List (List Bool)) (k : Nat) : (sizesOf rows).count (k : Int) = rk rows k := by
  rw [sizesOf, count_len, waysOf, ways_sum]
  simp only [List.map_cons, List.map_nil, List.sum_cons, List.sum_nil, rk, List.length_nil, Nat.add_zero]
  congr 1
theorem answer_eq (rows : List (List Bool)) : answer rows = [(rk rows 4 : Int), (rk rows 3 : Int), (rk rows 2 : Int), (rk rows 1 : Int), (rk rows 0 : Int)] := by
  have h := sizes_count rows
  simp only [answer, List.map_cons, List.map_nil]
  have h4 : (sizesOf rows).count (4 : Int) = rk rows 4 := h 4
  have h3 : (sizesOf rows).count (3 : Int) = rk rows 3 := h 3
  have h2 : (sizesOf rows).count (2 : Int) = rk rows 2 := h 2
  have h1 : (sizesOf rows).count (1 : Int) = rk rows 1 := h 1
  have h0 : (sizesOf rows).count (0 : Int) = rk rows 0 := h 0
  rw [h4, h3, h2, h1, h0]
theorem s4_add (f g : Nat → Nat) : s4 (fun j => f j + g j) = s4 f + s4 g := by simp only [s4]; ac_rfl
theorem s4_comm (h : Nat → Nat → Nat) : s4 (fun i => s4 fun j => h i j) = s4 fun j => s4 fun i => h i j := by simp only [s4]; ac_rfl
theorem s4_if (c : Prop) [Decidable c] (f : Nat → Nat) : (if c then s4 f else 0) = s4 fun j => if c then f j else 0 := by
  by_cases h : c
  · simp only [if_pos h]
  · simp only [if_neg h]; rfl
theorem if_add (c : Prop) [Decidable c] (x y : Nat) : (if c then x + y else 0) = (if c then x else 0) + (if c then y else 0) := by
  by_cases h : c
  · simp only [if_pos h]
  · simp only [if_neg h]
theorem if_if (a b : Bool) (x : Nat) : (if a = true then (if b = true then x else 0) else 0) = if (a && b) = true then x else 0 := by cases a <;> rfl
theorem ek_two (a b : List Bool) (rs : List (List Bool)) (u : Nat → Bool) (s k : Nat) : ek (a :: b :: rs) u s k =
    ek rs u s k + s4 (fun j => if (b.getD j false && !u j) = true then ek rs (put u j) (s + 1) k else 0) + (s4 (fun i => if (a.getD i false && !u i) = true then ek rs (put u i) (s + 1) k else 0) +
      s4 fun i => s4 fun j => if ((a.getD i false && !u i) && (b.getD j false && !put u i j)) = true then ek rs (put (put u i) j) (s + 1 + 1) k else 0) := by
  simp only [ek, if_add, s4_add, s4_if, if_if]
theorem swap_bit (x y p q e e' : Bool) (h : e = e') : ((x && !p) && (y && !(e || q))) = ((y && !q) && (x && !(e' || p))) := by
  subst h; revert x y p q e; decide
theorem ek_swap (a b : List Bool) (rs : List (List Bool)) (u : Nat → Bool) (s k : Nat) : ek (a :: b :: rs) u s k = ek (b :: a :: rs) u s k := by
  rw [ek_two, ek_two b a, s4_comm (fun i j => if ((b.getD i false && !u i) && (a.getD j false && !put u i j)) = true then ek rs (put (put u i) j) (s + 1 + 1) k else 0)]
  have e : ∀ i j, ((a.getD i false && !u i) && (b.getD j false && !put u i j)) = ((b.getD j false && !u j) && (a.getD i false && !put u j i)) := fun i j =>
    swap_bit _ _ _ _ _ _ (by rw [Bool.eq_iff_iff, beq_iff_eq, beq_iff_eq]; exact eq_comm)
  have : (s4 fun i => s4 fun j => if ((a.getD i false && !u i) && (b.getD j false && !put u i j)) = true then ek rs (put (put u i) j) (s + 1 + 1) k else 0) =
      s4 fun i => s4 fun j => if ((b.getD j false && !u j) && (a.getD i false && !put u j i)) = true then ek rs (put (put u j) i) (s + 1 + 1) k else 0 :=
    s4_congr fun i _ => s4_congr fun j _ => by rw [e i j, put_comm u i j]
  rw [this]
  exact Nat.add_add_add_comm .. |>.trans (by ac_rfl)
theorem ek_perm {rows rows' : List (List Bool)} (h : rows.Perm rows') : ∀ u s k, ek rows u s k = ek rows' u s k := by
  induction h with
  | nil => intro u s k; rfl
  | cons x _ ih => intro u s k; simp only [ek, ih]
  | swap x y l => intro u s k; exact ek_swap y x l u s k
  | trans _ _ ih1 ih2 => intro u s k; rw [ih1, ih2]
end Mine
end PartM4

section PartM5
open PySem
namespace Mine
def i4 (f : Nat → Int) : Int := f 0 + f 1 + f 2 + f 3
theorem s4_cast (f : Nat → Nat) : ((s4 f : Nat) : Int) = i4 fun j => (f j : Int) := by simp [s4, i4]
theorem i4_congr {f g : Nat → Int} (h : ∀ j, j < 4 → f j = g j) : i4 f = i4 g := by
  unfold i4; rw [h 0 (by omega), h 1 (by omega), h 2 (by omega), h 3 (by omega)]
def cntU (u : Nat → Bool) : Nat := s4 fun j => if u j = true then 1 else 0
def cntR (r : List Bool) : Int := (cntU fun j => r.getD j false : Nat)
def rho : List Int → Nat → Nat → Int
  | [], s, k => if s = k then 1 else 0
  | c :: cs, s, k => rho cs s k + (c - s) * rho cs (s + 1) k
theorem put_b : ∀ u0 u1 u2 u3 : Bool, (u0 = false → (true).toNat + u1.toNat + u2.toNat + u3.toNat = u0.toNat + u1.toNat + u2.toNat + u3.toNat + 1) ∧ (u1 = false → u0.toNat + (true).toNat + u2.toNat + u3.toNat = u0.toNat + u1.toNat + u2.toNat + u3.toNat + 1) ∧
    (u2 = false → u0.toNat + u1.toNat + (true).toNat + u3.toNat = u0.toNat + u1.toNat + u2.toNat + u3.toNat + 1) ∧ (u3 = false → u0.toNat + u1.toNat + u2.toNat + (true).toNat = u0.toNat + u1.toNat + u2.toNat + u3.toNat + 1) := by decide +kernel
theorem cntU_eq (u : Nat → Bool) : cntU u = (u 0).toNat + (u 1).toNat + (u 2).toNat + (u 3).toNat := by
  have : ∀ b : Bool, (if b = true then 1 else 0 : Nat) = b.toNat := by intro b; cases b <;> rfl
  simp only [cntU, s4, this]
theorem cnt_put {u : Nat → Bool} {j : Nat} (hj : j < 4) (h : u j = false) : cntU (put u j) = cntU u + 1 := by
  obtain ⟨p0, p1, p2, p3⟩ := put_b (u 0) (u 1) (u 2) (u 3)
  rw [cntU_eq, cntU_eq]
  match j, hj with
  | 0, _ => exact p0 h
  | 1, _ => exact p1 h
  | 2, _ => exact p2 h
  | 3, _ => exact p3 h
theorem count_step {r u : Nat → Bool} (Y : Int) (h : ∀ j, j < 4 → u j = true → r j = true) : (i4 fun j => if (r j && !u j) = true then Y else 0) = ((cntU r : Int) - (cntU u : Int)) * Y := by
  have t : ∀ j, j < 4 → (if (r j && !u j) = true then Y else 0) = (((if r j = true then 1 else 0 : Nat) : Int) - ((if u j = true then 1 else 0 : Nat) : Int)) * Y := by
    intro j hj
    have := h j hj
    cases hr : r j <;> cases hu : u j <;> simp_all
  rw [i4_congr t]
  unfold cntU i4
  simp only [s4, Int.natCast_add, Int.sub_mul, Int.add_mul]
  omega
theorem ek_rho : ∀ (rows : List (List Bool)), rows.Pairwise (fun a b => ∀ j, j < 4 → a.getD j false = true → b.getD j false = true) → ∀ (u : Nat → Bool) (s k : Nat), (∀ r ∈ rows, ∀ j, j < 4 → u j = true → r.getD j false = true) → s = cntU u →
    (ek rows u s k : Int) = rho (rows.map cntR) s k := by
  intro rows
  induction rows with
  | nil => intro _ u s k _ _; simp only [ek, rho, List.map_nil]; split <;> rfl
  | cons r rs ih =>
    intro hp u s k hu hs
    obtain ⟨h1, h2⟩ := List.pairwise_cons.mp hp
    simp only [ek, rho, List.map_cons, Int.natCast_add]
    rw [ih h2 u s k (fun r' hr' => hu r' (.tail _ hr')) hs, s4_cast]
    have hur := hu r (.head _)
    have : (i4 fun j => ((if (r.getD j false && !u j) = true then ek rs (put u j) (s + 1) k else 0 : Nat) : Int)) = i4 fun j => if (r.getD j false && !u j) = true then rho (rs.map cntR) (s + 1) k else 0 := by
      refine i4_congr fun j hj => ?_
      by_cases hc : (r.getD j false && !u j) = true
      · rw [if_pos hc, if_pos hc]
        obtain ⟨hr1, hu1⟩ : r.getD j false = true ∧ u j = false := by simpa using hc
        refine ih h2 (put u j) (s + 1) k (fun r' hr' i hi hput => ?_) (by rw [cnt_put hj hu1, hs])
        simp only [put, Bool.or_eq_true, beq_iff_eq] at hput
        rcases hput with rfl | hput
        · exact h1 r' hr' i hi hr1
        · exact h1 r' hr' i hi (hur i hi hput)
      · rw [if_neg hc, if_neg hc]; rfl
    rw [this, count_step _ hur, hs]
    rfl
theorem rho_poly (c0 c1 c2 c3 : Int) :
    rho [c0, c1, c2, c3] 0 0 = 1 ∧ rho [c0, c1, c2, c3] 0 1 = c0 + c1 + c2 + c3 ∧
    (∀ B : Int, (B + c0) * (B + c1 - 1) * (B + c2 - 2) * (B + c3 - 3) = rho [c0, c1, c2, c3] 0 4 + B * (rho [c0, c1, c2, c3] 0 3 + (B - 1) * (rho [c0, c1, c2, c3] 0 2 + (B - 2) * (rho [c0, c1, c2, c3] 0 1 + (B - 3) * rho [c0, c1, c2, c3] 0 0)))) := by
  refine ⟨by simp [rho], by simp [rho]; omega, fun B => ?_⟩
  simp [rho]
  grind
theorem rho_small : ∀ c0 ∈ ([0, 1, 2, 3, 4] : List Int), ∀ c1 ∈ ([0, 1, 2, 3, 4] : List Int), ∀ c2 ∈ ([0, 1, 2, 3, 4] : List Int), ∀ c3 ∈ ([0, 1, 2, 3, 4] : List Int),
    rho [c0, c1, c2, c3] 0 4 ≤ 200 ∧ rho [c0, c1, c2, c3] 0 3 ≤ 200 ∧ rho [c0, c1, c2, c3] 0 2 ≤ 200 ∧ rho [c0, c1, c2, c3] 0 1 ≤ 200 := by decide +kernel
end Mine
end PartM5

section PartM6
open PySem
namespace Mine
def sub4 (a b : List Bool) : Prop := ∀ j, j < 4 → a.getD j false = true → b.getD j false = true
theorem cntR_eq (r : List Bool) : cntR r = (((r.getD 0 false).toNat + (r.getD 1 false).toNat + (r.getD 2 false).toNat + (r.getD 3 false).toNat : Nat) : Int) := by
  have : ∀ b : Bool, (if b = true then 1 else 0 : Nat) = b.toNat := by intro b; cases b <;> rfl
  simp only [cntR, cntU, s4, this]
theorem le_b : ∀ a0 a1 a2 a3 b0 b1 b2 b3 : Bool, (a0 = true → b0 = true) → (a1 = true → b1 = true) → (a2 = true → b2 = true) → (a3 = true → b3 = true) →
    a0.toNat + a1.toNat + a2.toNat + a3.toNat ≤ b0.toNat + b1.toNat + b2.toNat + b3.toNat := by decide +kernel
theorem sub_b : ∀ a0 a1 a2 a3 b0 b1 b2 b3 : Bool, (b0 = true → a0 = true) → (b1 = true → a1 = true) → (b2 = true → a2 = true) → (b3 = true → a3 = true) →
    a0.toNat + a1.toNat + a2.toNat + a3.toNat ≤ b0.toNat + b1.toNat + b2.toNat + b3.toNat → (a0 = true → b0 = true) ∧ (a1 = true → b1 = true) ∧ (a2 = true → b2 = true) ∧ (a3 = true → b3 = true) := by decide +kernel
theorem rng_b : ∀ a0 a1 a2 a3 : Bool, a0.toNat + a1.toNat + a2.toNat + a3.toNat ≤ 4 := by decide +kernel
theorem cnt_le {a b : List Bool} (h : sub4 a b) : cntR a ≤ cntR b := by
  rw [cntR_eq, cntR_eq]
  exact Int.ofNat_le.mpr (le_b _ _ _ _ _ _ _ _ (h 0 (by decide)) (h 1 (by decide)) (h 2 (by decide)) (h 3 (by decide)))
theorem sub_of_cnt {a b : List Bool} (h : sub4 b a) (hc : cntR a ≤ cntR b) : sub4 a b := by
  rw [cntR_eq, cntR_eq] at hc
  obtain ⟨g0, g1, g2, g3⟩ := sub_b _ _ _ _ _ _ _ _ (h 0 (by decide)) (h 1 (by decide)) (h 2 (by decide)) (h 3 (by decide)) (Int.ofNat_le.mp hc)
  intro j hj
  match j, hj with
  | 0, _ => exact g0
  | 1, _ => exact g1
  | 2, _ => exact g2
  | 3, _ => exact g3
theorem cnt_range (r : List Bool) : 0 ≤ cntR r ∧ cntR r ≤ 4 := by
  rw [cntR_eq]
  exact ⟨Int.natCast_nonneg _, Int.ofNat_le.mpr (rng_b _ _ _ _)⟩
theorem rook_main {rows : List (List Bool)} {cs : List Int} (h4 : rows.length = 4) (chain : ∀ a ∈ rows, ∀ b ∈ rows, sub4 a b ∨ sub4 b a) (hp : cs.Perm (rows.map cntR)) (hs : cs.Pairwise (· ≤ ·)) :
    (∀ k, (rk rows k : Int) = rho cs 0 k) ∧ ∃ c0 c1 c2 c3, cs = [c0, c1, c2, c3] ∧ (0 ≤ c0 ∧ c0 ≤ 4) ∧ (0 ≤ c1 ∧ c1 ≤ 4) ∧ (0 ≤ c2 ∧ c2 ≤ 4) ∧ (0 ≤ c3 ∧ c3 ≤ 4) := by
  have hperm := List.mergeSort_perm rows fun a b => decide (cntR a ≤ cntR b)
  have hpw := List.pairwise_mergeSort (le := fun a b => decide (cntR a ≤ cntR b)) (by intro a b c; simp only [decide_eq_true_eq]; omega) (by intro a b; simp only [Bool.or_eq_true, decide_eq_true_eq]; omega) rows
  generalize rows.mergeSort (fun a b => decide (cntR a ≤ cntR b)) = rs at *
  have hpw1 : rs.Pairwise fun a b => cntR a ≤ cntR b := hpw.imp fun h => by simpa using h
  have hcs : cs = rs.map cntR := by
    refine List.Perm.eq_of_pairwise (le := fun a b : Int => a ≤ b) (fun a b _ _ h1 h2 => Int.le_antisymm h1 h2) hs ?_ (hp.trans (hperm.map cntR).symm)
    exact List.pairwise_map.mpr hpw1
  have hnest : rs.Pairwise fun a b => ∀ j, j < 4 → a.getD j false = true → b.getD j false = true := by
    have hmem : ∀ a ∈ rs, a ∈ rows := fun a ha => hperm.mem_iff.mp ha
    clear hcs hs hp hpw hperm h4
    induction rs with
    | nil => exact .nil
    | cons r rs ih =>
      obtain ⟨h1, h2⟩ := List.pairwise_cons.mp hpw1
      refine List.pairwise_cons.mpr ⟨fun b hb => ?_, ih h2 fun a ha => hmem a (.tail _ ha)⟩
      rcases chain r (hmem r (.head _)) b (hmem b (.tail _ hb)) with h | h
      · exact h
      · exact sub_of_cnt h (h1 b hb)
  refine ⟨fun k => ?_, ?_⟩
  · rw [rk, ← ek_perm hperm, hcs]
    exact ek_rho rs hnest _ 0 k (fun _ _ _ _ h => by cases h) rfl
  · have hl : rs.length = 4 := by rw [hperm.length_eq, h4]
    match rs, hl, hcs with
    | [r0, r1, r2, r3], _, hcs => exact ⟨cntR r0, cntR r1, cntR r2, cntR r3, by rw [hcs]; rfl, cnt_range _, cnt_range _, cnt_range _, cnt_range _⟩
theorem mem5 {c : Int} (h : 0 ≤ c ∧ c ≤ 4) : c ∈ ([0, 1, 2, 3, 4] : List Int) := by
  obtain ⟨n, rfl⟩ := Int.eq_ofNat_of_zero_le h.1
  have hn : n ≤ 4 := Int.ofNat_le.mp h.2
  match n, hn with
  | 0, _ => decide
  | 1, _ => decide
  | 2, _ => decide
  | 3, _ => decide
  | 4, _ => decide
theorem fdm {r b q : Int} (hb : 0 < b) (h0 : 0 ≤ r) (h1 : r < b) : (r + b * q).fdiv b = q ∧ (r + b * q).fmod b = r := by
  rw [Int.fdiv_eq_ediv_of_nonneg _ (Int.le_of_lt hb), Int.fmod_eq_emod_of_nonneg _ (Int.le_of_lt hb)]
  constructor
  · rw [Int.add_mul_ediv_left _ _ (Int.ne_of_gt hb), Int.ediv_eq_zero_of_lt h0 h1]; omega
  · rw [Int.add_mul_emod_self_left, Int.emod_eq_of_lt h0 h1]
theorem grow {b r n M N : Int} (hb : 200 < b ∧ b < 100000000000) (hr : 0 ≤ r ∧ r ≤ 200) (hn : 0 < n ∧ n ≤ M) (hN : 200 + 100000000000 * M ≤ N) : 0 < r + b * n ∧ r + b * n ≤ N := by
  have h1 : 0 < b * n := Int.mul_pos (by omega) hn.1
  have h2 : b * n ≤ 100000000000 * n := Int.mul_le_mul_of_nonneg_right (by omega) (by omega)
  omega
theorem digs_of {r4 r3 r2 r1 B : Int} (hB : 256 ≤ B ∧ B < 100000000000) (h4 : 0 ≤ r4 ∧ r4 ≤ 200) (h3 : 0 ≤ r3 ∧ r3 ≤ 200) (h2 : 0 ≤ r2 ∧ r2 ≤ 200) (h1 : 0 ≤ r1 ∧ r1 ≤ 200) :
    ∃ n1 n2 n3, Digs B (r4 + B * (r3 + (B - 1) * (r2 + (B - 2) * (r1 + (B - 3) * 1)))) n1 n2 n3 1 r4 r3 r2 r1 := by
  have g3 := grow (b := B - 3) (n := 1) (M := 1) (N := 10 ^ 12) (by omega) h1 (by omega) (by decide)
  have g2 := grow (b := B - 2) (M := 10 ^ 12) (N := 10 ^ 24) (by omega) h2 g3 (by decide)
  have g1 := grow (b := B - 1) (M := 10 ^ 24) (N := 10 ^ 36) (by omega) h3 g2 (by decide)
  have g0 := grow (b := B) (M := 10 ^ 36) (N := 10 ^ 48) (by omega) h4 g1 (by decide)
  have big : (10 : Int) ^ 48 < 2 ^ 200 := by decide
  have big1 : (10 : Int) ^ 36 < 2 ^ 200 := by decide
  have big2 : (10 : Int) ^ 24 < 2 ^ 200 := by decide
  have big3 : (10 : Int) ^ 12 < 2 ^ 200 := by decide
  exact ⟨_, _, _, hB, fdm (by omega) h4.1 (by omega), fdm (by omega) h3.1 (by omega), fdm (by omega) h2.1 (by omega), fdm (by omega) h1.1 (by omega),
    ⟨g0.1, Int.lt_of_le_of_lt g0.2 big⟩, ⟨g1.1, Int.lt_of_le_of_lt g1.2 big1⟩, ⟨g2.1, Int.lt_of_le_of_lt g2.2 big2⟩, ⟨g3.1, Int.lt_of_le_of_lt g3.2 big3⟩⟩
theorem law_rooks {rows : List (List Bool)} {c0 c1 c2 c3 B : Int} (h4 : rows.length = 4) (chain : ∀ a ∈ rows, ∀ b ∈ rows, sub4 a b ∨ sub4 b a) (hp : [c0, c1, c2, c3].Perm (rows.map cntR)) (hs : [c0, c1, c2, c3].Pairwise (· ≤ ·)) (hB : 256 ≤ B ∧ B < 100000000000) :
    ∃ n1 n2 n3 n4 r4 r3 r2 r1, Digs B ((B + c0) * (B + c1 - 1) * (B + c2 - 2) * (B + c3 - 3)) n1 n2 n3 n4 r4 r3 r2 r1 ∧ answer rows = [r4, r3, r2, r1, n4] := by
  obtain ⟨hk, d0, d1, d2, d3, e, b0, b1, b2, b3⟩ := rook_main h4 chain hp hs
  injection e with e0 e
  injection e with e1 e
  injection e with e2 e
  injection e with e3 e
  subst e0 e1 e2 e3
  obtain ⟨p0, p1, p4⟩ := rho_poly c0 c1 c2 c3
  obtain ⟨u4, u3, u2, u1⟩ := rho_small c0 (mem5 b0) c1 (mem5 b1) c2 (mem5 b2) c3 (mem5 b3)
  have nn : ∀ k, 0 ≤ rho [c0, c1, c2, c3] 0 k := fun k => by rw [← hk]; exact Int.natCast_nonneg _
  obtain ⟨n1, n2, n3, D⟩ := digs_of hB ⟨nn 4, u4⟩ ⟨nn 3, u3⟩ ⟨nn 2, u2⟩ ⟨nn 1, u1⟩
  refine ⟨n1, n2, n3, 1, rho [c0, c1, c2, c3] 0 4, rho [c0, c1, c2, c3] 0 3, rho [c0, c1, c2, c3] 0 2, rho [c0, c1, c2, c3] 0 1, ?_, ?_⟩
  · rw [p4 B, p0]; exact D
  · rw [answer_eq, hk, hk, hk, hk, hk, p0]
theorem cnt_not {r : List Bool} (h : r.length = 4) : cntR (r.map (! ·)) = 4 - cntR r := by
  match r, h with
  | [a, b, c, d], _ => cases a <;> cases b <;> cases c <;> cases d <;> rfl
theorem sub_not {a b : List Bool} (ha : a.length = 4) (hb : b.length = 4) (h : sub4 a b) : sub4 (b.map (! ·)) (a.map (! ·)) := by
  intro j hj hj2
  have hj3 := h j hj
  simp only [List.getD, List.getElem?_map, List.getElem?_eq_getElem (show j < b.length by omega), List.getElem?_eq_getElem (show j < a.length by omega), Option.map_some, Option.getD_some] at hj2 hj3 ⊢
  revert hj2 hj3
  cases a[j] <;> cases b[j] <;> simp
theorem law_chow {rows : List (List Bool)} {c0 c1 c2 c3 B : Int} (h4 : rows.length = 4) (hl : ∀ r ∈ rows, r.length = 4) (chain : ∀ a ∈ rows, ∀ b ∈ rows, sub4 a b ∨ sub4 b a) (hp : [c0, c1, c2, c3].Perm (rows.map cntR)) (hs : [c0, c1, c2, c3].Pairwise (· ≤ ·)) (hB : 256 ≤ B ∧ B < 100000000000) :
    ∃ n1 n2 n3 n4 r4 r3 r2 r1, Digs B ((-B - 1 + c0) * (-B - 1 + c1 - 1) * (-B - 1 + c2 - 2) * (-B - 1 + c3 - 3)) n1 n2 n3 n4 r4 r3 r2 r1 ∧ answer (rows.map fun r => r.map (! ·)) = [r4, r3, r2, r1, n4] := by
  have e : (-B - 1 + c0) * (-B - 1 + c1 - 1) * (-B - 1 + c2 - 2) * (-B - 1 + c3 - 3) = (B + (4 - c3)) * (B + (4 - c2) - 1) * (B + (4 - c1) - 2) * (B + (4 - c0) - 3) := by grind
  rw [e]
  have hp2 : [4 - c3, 4 - c2, 4 - c1, 4 - c0].Perm ((rows.map fun r => r.map (! ·)).map cntR) := by
    have h1 : (rows.map fun r => r.map (! ·)).map cntR = (rows.map cntR).map fun c => 4 - c := by
      rw [List.map_map, List.map_map]
      exact List.map_congr_left fun r hr => cnt_not (hl r hr)
    rw [h1]
    have h2 := (hp.map fun c => 4 - c)
    exact (List.reverse_perm [4 - c0, 4 - c1, 4 - c2, 4 - c3]).trans h2
  have hs2 : [4 - c3, 4 - c2, 4 - c1, 4 - c0].Pairwise (· ≤ ·) := by
    simp only [List.pairwise_cons, List.mem_cons, List.not_mem_nil, or_false, forall_eq_or_imp, forall_eq] at hs ⊢
    simp only [List.Pairwise.nil, and_true, false_implies, implies_true] at hs ⊢
    omega
  refine law_rooks (by simpa using h4) ?_ hp2 hs2 hB
  intro a ha b hb
  obtain ⟨a', ha', rfl⟩ := List.mem_map.mp ha
  obtain ⟨b', hb', rfl⟩ := List.mem_map.mp hb
  rcases chain a' ha' b' hb' with h | h
  · exact .inr (sub_not (hl _ ha') (hl _ hb') h)
  · exact .inl (sub_not (hl _ hb') (hl _ ha') h)
end Mine
end PartM6

section PartC8
open PySem PySem.W PyProof.Rows PySem.Calls
namespace Mine
theorem ints_ex {α : Type} {P : Int → Prop} {ds : List α} {ys : List Value} (h : All2 (fun _ y => ∃ n t, y = Value.int n t ∧ P n) ds ys) : ∃ ns, IntsAre ys ns ∧ (∀ n ∈ ns, P n) ∧ ns.length = ds.length := by
  induction h with
  | nil => exact ⟨[], .nil, fun _ h => (nomatch h), rfl⟩
  | cons x _ ih =>
    obtain ⟨n, t, rfl, hp⟩ := x
    obtain ⟨ns, hi, hall, hl⟩ := ih
    refine ⟨n :: ns, .cons n t hi, ?_, by simp [hl]⟩
    intro k hk
    rcases List.mem_cons.mp hk with rfl | hk
    · exact hp
    · exact hall k hk
theorem sum_bounds {a b : Int} : ∀ (l : List Int), (∀ x ∈ l, a ≤ x ∧ x ≤ b) → a * l.length ≤ l.sum ∧ l.sum ≤ b * l.length
  | [], _ => by simp
  | x :: l, h => by
    have h1 := h x (.head _)
    have h2 := sum_bounds l fun y hy => h y (.tail _ hy)
    simp only [List.sum_cons, List.length_cons, Int.natCast_add, Int.natCast_one, Int.mul_add, Int.mul_one]
    omega
section
variable {prog : Program} {w : World} {A : Around} {E : Value → Shared → Prop} {s : Shared} {g : Heap} {L l : Addr} {m : Str → Option Value} {news : List (Addr × Obj)} {Q : Value → Shared → Prop}
theorem slice3I {value slice : Expr} {vs : List Value} {ns : List Int} {vl vu vk : Value} {lo hi st : Option Int} {ops : List Value} (hI : IntsAre vs ns) (hlen : ns.length ≤ 100) (F : Fr g L s.heap m) (N : News g L s.heap news) (hl : s.heap.IsList l vs.toArray)
    (pl : IsPart vl lo) (pu : IsPart vu hi) (pk : IsPart vk st) (h0 : st ≠ some 0)
    (h : ∀ D h' zs ms, Fr g L h' m → News g L h' ((D, lst zs 0) :: news) → (∀ p ∈ news, p.1 < D) → IntsAre zs ms → ms.length ≤ 100 → Q (.ref D) { s with heap := h' })
    (hs : subscripted slice false (.ref l) (.ref s.heap.objs.size) = operate ops (getItem (.ref l) (.ref s.heap.objs.size))) (ht : ∀ r, letTemporaryGo value (.ref l) r = pure ()) :
    wpAny (model prog w) A (subscriptTail value slice (.ref l) (.ref s.heap.objs.size)) Q E { s with heap := s.heap.push { cls := .type "slice", data := .fields #[vl, vu, vk] } } := by
  have hsz : vs.toArray.size ≤ 100 := by rw [List.size_toArray, hI.length]; exact hlen
  refine kmk_slice3_lit F N hl pl pu pk h0 rfl (fun D h' F' N' l1 => h D h' _ _ F' N' l1 (IntsAre.pick hI lo hi st) ?_) hs ht (by rw [sizeLine_eq]; omega)
  have h1 := (IntsAre.pick hI lo hi st).length
  have h2 := slicePick_size_le vs.toArray lo hi st
  rw [← h1]; simp only [Array.length_toList]; omega
theorem itemI {value slice : Expr} {vs : List Value} {ns : List Int} {k : Int} {u : Tok} (hl : s.heap.IsList l vs.toArray) (hi : IntsAre vs ns) (h0 : 0 ≤ k) (h1 : k < ns.length) (h2 : ns.length ≤ 1000) (h : ∀ t, Q (.int (ns.getD k.toNat 0) t) s)
    (hs : subscripted slice false (.ref l) (.int k u) = operate [.ref l, .int k u] (getItem (.ref l) (.int k u)) := by with_unfolding_all rfl) (hg : ∀ r, letTemporaryGo value (.ref l) r = pure () := by intro _; with_unfolding_all rfl) :
    wpAny (model prog w) A (subscriptTail value slice (.ref l) (.int k u)) Q E s :=
  item_list_ints hl hi h0 h1 (by omega) h hs hg
end
theorem six {k : Int} (h : 0 ≤ k ∧ k < 6) : ∃ n : Nat, n ∈ [0, 1, 2, 3, 4, 5] ∧ k = (n : Int) := by
  obtain ⟨n, rfl⟩ := Int.eq_ofNat_of_zero_le h.1
  have h6 : n < 6 := Int.ofNat_lt.mp h.2
  refine ⟨n, ?_, rfl⟩
  match n, h6 with
  | 0, _ => decide
  | 1, _ => decide
  | 2, _ => decide
  | 3, _ => decide
  | 4, _ => decide
  | 5, _ => decide
theorem sixN {k : Int} (h : 0 ≤ k ∧ k < 6) : k.toNat ∈ [0, 1, 2, 3, 4, 5] := by
  obtain ⟨n, hn, rfl⟩ := six h
  exact hn
end Mine
end PartC8

section PartX9
open PySem PySem.W PyProof.Rows PySem.Calls
namespace Mine
def lawS : Option Stmt := nth 66 PySem.Challenge.pw_qu0053_01.main.body
theorem lawS_ok : (bodyOf lawS).length = 18 := by rfl
/-- the law's frame and ledger: the eight cells and the two tables, then what else is kept -/
def cells8 (L : Addr) (o1 o2 o3 o4 o5 o6 o7 o8 : Obj) (t1 t2 : Obj) : List (Addr × Obj) :=
  [(L + 1 + 1 + 1 + 1 + 1 + 1 + 1 + 1, o8), (L + 1 + 1 + 1 + 1 + 1 + 1 + 1, o7), (L + 1 + 1 + 1 + 1 + 1 + 1, o6), (L + 1 + 1 + 1 + 1 + 1, o5), (L + 1 + 1 + 1 + 1, o4), (L + 1 + 1 + 1, o3), (L + 1 + 1, o2), (L + 1, o1), (37, t1), (30, t2)]
end Mine
end PartX9

section PartSA
open PySem PySem.W PyProof.Rows PySem.Calls
namespace Mine
theorem offSA : True := by w_top off; trivial
variable {prog : Program} {w : World} {dp un : Nat} {gd : Option (List Code)} {fr : Option (List Env)} {s : Shared} {p : Program} {loose : List Str} {mean : ExcName → Option Value} {mg mb : Str → Option Value} {g : Heap} {Q : Flow → Shared → Prop} {E : Value → Shared → Prop}
local macro_rules | `(tactic| walk_at "subscriptTail Name Slice ref ref") => `(tactic| ((with_reducible show wpAny _ _ (subscriptTail _ (PySem.Expr.Slice _ _ (some _) _) (Value.ref _) (Value.ref _)) _ _ _); k_dflt (refine' slice3I ?I ?len ?F ?N ?l ?p ?q ?k ?o ?_ ?s ?t; (case l => assumption); (case I => assumption); (case len => omega); (case F => assumption); (case N => assumption); (case p => kmk_part); (case q => kmk_part); (case k => kmk_part); (case o => decide); (case s => with_unfolding_all rfl); (case t => kmk_pure)); intro _ _ _ _ _ _ _ _ _))
set_option maxRecDepth 100000 in
set_option maxHeartbeats 8000000 in
set_option pp.deepTerms false in
set_option pp.deepTerms.threshold 8 in
theorem segA {L fa ax : Addr} {cd : Value} {m : Str → Option Value} {vs : List Value} {ns : List Int} {o1 o2 o3 o4 o5 o6 o7 o8 t1 t2 : Obj} (K : Base w p loose mean mg mb g) (F : Fr g L s.heap m) (N : News g L s.heap (cells8 L o1 o2 o3 o4 o5 o6 o7 o8 t1 t2)) (hun : un + 200 < cLine)
    (d1 : o1.data = .cell (some (.ref ax))) (d2 : o2.data = .cell none) (l0 : (37 : Nat) < L ∧ (30 : Nat) < L) (lifted : g.IsList ax vs.toArray) (hI : IntsAre vs ns) (hns : ns.length ≤ 63)
    (hnext : ∀ h' tk' m' o2' D ys n0 n1 n2 n3 n4 n5 n6 n7, Fr g L h' m' → News g L h' ((D, lst ys ys.length) :: cells8 L o1 o2' o3 o4 o5 o6 o7 o8 t1 t2) → (∀ q ∈ cells8 L o1 o2' o3 o4 o5 o6 o7 o8 t1 t2, @Ne Nat D q.1) → m' (Str.ofString "numbers") = some (.ref D) → IntsAre ys [n0, n1, n2, n3, n4, n5, n6, n7] → (∀ n ∈ [n0, n1, n2, n3, n4, n5, n6, n7], 0 ≤ n ∧ n ≤ 10000) →
      wpAny (model prog w) (AA dp un gd fr) (execs ((bodyOf lawS).drop 2) (envOfC (Str.ofString "law") (scopeOf lawS) L fa cd)) Q E { s with heap := h', toks := tk' }) :
    wpAny (model prog w) (AA dp un gd fr) (execs (bodyOf lawS) (envOfC (Str.ofString "law") (scopeOf lawS) L fa cd)) Q E s := by
  dsimp only [lawS, nth, bodyOf, scopeOf, PySem.Challenge.pw_qu0053_01]
  unfold cells8 at N
  have X := K.X
  have T := K.T
  repeat' (first | ((with_reducible show wpAny _ _ (call (Value.builtin "sum") _) _ _ _); (k_dflt (refine sumK rfl (by assumption) (by assumption) (by assumption) (by assumption) ?_); intro _ _ _ _ _)) | ((with_reducible show wpAny _ _ (subscriptTail _ _ _ _) _ _ _); ((with_reducible show wpAny _ _ (subscriptTail _ _ (Value.ref _) (Value.int _ _)) _ _ _); k_dflt (refine itemI (by assumption) (by assumption) (by omega) (by simp; omega) (by simp) ?_); intro _)) | ((with_reducible show wpAny _ _ (eval (PySem.Expr.Name _ _) _) _ _ _); (k_dflt (first | refine nameX_L (by assumption) (by assumption) ?_ | refine nameCL (by assumption) (by assumption) ?_ | refine nameCC (by assumption) (by assumption) rfl ?_))) | ((with_reducible show wpAny _ _ (eval (PySem.Expr.ListComp _ _ _ _) _) _ _ _); (refine stop_of ?_)) | ((with_reducible show wpAny _ _ (exec (Stmt.Assign _ (PySem.Expr.DictComp _ _ _ _ _) _) _) _ _ _); (refine stop_of ?_)) | ((with_reducible show wpAny _ _ (exec (Stmt.Assign _ (PySem.Expr.ListComp _ _ _ _) _) _) _ _ _); (refine stop_of ?_)) | ((with_reducible show wpAny _ _ (call (Value.ref _) _) _ _ _); (refine stop_of ?_)) | walk1 | (dsimp only; walk1) | fail "no step")
  refine ⟨?_⟩
  rename Fr _ _ _ _ => F1
  rename News _ _ _ _ => N1
  rename_i lS hSa lS1 hS oS dS
  refine comp_A (α := Nat) (fun _ y _ => ∃ n t, y = Value.int n t ∧ (0 ≤ n ∧ n ≤ 10000)) (fun _ _ _ _ h _ => h) ?_
  (try dsimp only)
  repeat' (first | ((with_reducible show wpAny _ _ (call (Value.builtin "sum") _) _ _ _); (k_dflt (refine sumK rfl (by assumption) (by assumption) (by assumption) (by assumption) ?_); intro _ _ _ _ _)) | ((with_reducible show wpAny _ _ (subscriptTail _ _ _ _) _ _ _); ((with_reducible show wpAny _ _ (subscriptTail _ _ (Value.ref _) (Value.int _ _)) _ _ _); k_dflt (refine itemI (by assumption) (by assumption) (by omega) (by simp; omega) (by simp) ?_); intro _)) | ((with_reducible show wpAny _ _ (eval (PySem.Expr.Name _ _) _) _ _ _); (k_dflt (first | refine nameX_L (by assumption) (by assumption) ?_ | refine nameCL (by assumption) (by assumption) ?_ | refine nameCC (by assumption) (by assumption) rfl ?_))) | ((with_reducible show wpAny _ _ (eval (PySem.Expr.ListComp _ _ _ _) _) _ _ _); (refine stop_of ?_)) | ((with_reducible show wpAny _ _ (exec (Stmt.Assign _ (PySem.Expr.DictComp _ _ _ _ _) _) _) _ _ _); (refine stop_of ?_)) | ((with_reducible show wpAny _ _ (exec (Stmt.Assign _ (PySem.Expr.ListComp _ _ _ _) _) _) _ _ _); (refine stop_of ?_)) | ((with_reducible show wpAny _ _ (call (Value.ref _) _) _ _ _); (refine stop_of ?_)) | walk1 | (dsimp only; walk1) | fail "no step")
  rename Fr _ _ _ _ => F2
  rename News _ _ _ _ => N2
  refine ⟨⟨List.range 8, (fun d v => ∃ t, v = Value.int (d : Int) t), _, .range (by assumption) (by decide) (n := 8) rfl (by decide) rfl ?hp, ?turn, F2.ns, ?fin⟩⟩
  case hp =>
    intro i t d hd
    obtain ⟨h1, rfl⟩ := List.getElem?_eq_some_iff.mp hd
    exact ⟨t, by simp⟩
  case turn =>
    intro d v C m' nw H tk E' hd hR hx F3 N3
    obtain ⟨t, rfl⟩ := hR
    have hd8 : d < 8 := by simpa using hd
    have hc1 := (⟨o1, N2.get (by k_mem), d1⟩ : Heap.IsCell _ (L + 1) (some (Value.ref ax)))
    have hc2 := (⟨oS, N2.get (by k_mem), dS⟩ : Heap.IsCell _ (L + 1 + 1) (some (Value.ref lS)))
    obtain ⟨vS, hl1, hl1i⟩ : ∃ vS : List Value, H.IsList lS vS.toArray ∧ IntsAre vS [0, 1, 2, 1, 0, 2, 3, 5] := ⟨_, (PySem.IsL.isList (N2.get (a := lS) (by k_mem))).at fun o e => F3.keep _ _ e, by repeat' constructor⟩
    have hl2 : H.IsList ax vs.toArray := (lifted.at fun o e => F2.keep _ _ e).at fun o e => F3.keep _ _ e
    have XH := K.X.keeps F2.keep
    have TH := K.T.keeps F2.keep
    clear F2 N2
    (try dsimp only)
    repeat' (first | ((with_reducible show wpAny _ _ (call (Value.builtin "sum") _) _ _ _); (k_dflt (refine sumK rfl (by assumption) (by assumption) (by assumption) (by assumption) ?_); intro _ _ _ _ _)) | ((with_reducible show wpAny _ _ (subscriptTail _ _ _ _) _ _ _); ((with_reducible show wpAny _ _ (subscriptTail _ _ (Value.ref _) (Value.int _ _)) _ _ _); k_dflt (refine itemI (by assumption) (by assumption) (by omega) (by simp; omega) (by simp) ?_); intro _)) | ((with_reducible show wpAny _ _ (eval (PySem.Expr.Name _ _) _) _ _ _); (k_dflt (first | refine nameX_L (by assumption) (by assumption) ?_ | refine nameCL (by assumption) (by assumption) ?_ | refine nameCC (by assumption) (by assumption) rfl ?_))) | ((with_reducible show wpAny _ _ (eval (PySem.Expr.ListComp _ _ _ _) _) _ _ _); (refine stop_of ?_)) | ((with_reducible show wpAny _ _ (exec (Stmt.Assign _ (PySem.Expr.DictComp _ _ _ _ _) _) _) _ _ _); (refine stop_of ?_)) | ((with_reducible show wpAny _ _ (exec (Stmt.Assign _ (PySem.Expr.ListComp _ _ _ _) _) _) _ _ _); (refine stop_of ?_)) | ((with_reducible show wpAny _ _ (call (Value.ref _) _) _ _ _); (refine stop_of ?_)) | walk1 | (dsimp only; walk1) | fail "no step")
    refine ⟨?_⟩
    refine comp_E (α := Int) (fun _ y _ => ∃ n t, y = Value.int n t ∧ (0 ≤ n ∧ n ≤ 11)) (fun _ _ _ _ h _ => h) ?_
    (try dsimp only)
    repeat' (first | ((with_reducible show wpAny _ _ (call (Value.builtin "sum") _) _ _ _); (k_dflt (refine sumK rfl (by assumption) (by assumption) (by assumption) (by assumption) ?_); intro _ _ _ _ _)) | ((with_reducible show wpAny _ _ (subscriptTail _ _ _ _) _ _ _); ((with_reducible show wpAny _ _ (subscriptTail _ _ (Value.ref _) (Value.int _ _)) _ _ _); k_dflt (refine itemI (by assumption) (by assumption) (by omega) (by simp; omega) (by simp) ?_); intro _)) | ((with_reducible show wpAny _ _ (eval (PySem.Expr.Name _ _) _) _ _ _); (k_dflt (first | refine nameX_L (by assumption) (by assumption) ?_ | refine nameCL (by assumption) (by assumption) ?_ | refine nameCC (by assumption) (by assumption) rfl ?_))) | ((with_reducible show wpAny _ _ (eval (PySem.Expr.ListComp _ _ _ _) _) _ _ _); (refine stop_of ?_)) | ((with_reducible show wpAny _ _ (exec (Stmt.Assign _ (PySem.Expr.DictComp _ _ _ _ _) _) _) _ _ _); (refine stop_of ?_)) | ((with_reducible show wpAny _ _ (exec (Stmt.Assign _ (PySem.Expr.ListComp _ _ _ _) _) _) _ _ _); (refine stop_of ?_)) | ((with_reducible show wpAny _ _ (call (Value.ref _) _) _ _ _); (refine stop_of ?_)) | walk1 | (dsimp only; walk1) | fail "no step")
    rename Fr _ _ _ _ => F4
    rename News _ _ _ _ => N4
    rename IntsAre _ _ => hz
    have hzl := hz.length
    rename List.length _ ≤ 100 => hzc
    refine ⟨⟨_, (fun k v => ∃ t, v = Value.int k t), .list (PySem.IsL.isList (N4.get (.head _))) (All2.ofInts hz) (by rw [sizeLine_eq]; omega), ?turn2, ?fin2⟩⟩
    case turn2 =>
      intro k v C2 m2 nw2 H2 tk2 E2 hk hR2 hx2 F5 N5
      obtain ⟨t2, rfl⟩ := hR2
      clear F4 N4 F3 N3
      (try dsimp only)
      repeat' (first | ((with_reducible show wpAny _ _ (call (Value.builtin "sum") _) _ _ _); (k_dflt (refine sumK rfl (by assumption) (by assumption) (by assumption) (by assumption) ?_); intro _ _ _ _ _)) | ((with_reducible show wpAny _ _ (subscriptTail _ _ _ _) _ _ _); ((with_reducible show wpAny _ _ (subscriptTail _ _ (Value.ref _) (Value.int _ _)) _ _ _); k_dflt (refine itemI (by assumption) (by assumption) (by omega) (by simp; omega) (by simp) ?_); intro _)) | ((with_reducible show wpAny _ _ (eval (PySem.Expr.Name _ _) _) _ _ _); (k_dflt (first | refine nameX_L (by assumption) (by assumption) ?_ | refine nameCL (by assumption) (by assumption) ?_ | refine nameCC (by assumption) (by assumption) rfl ?_))) | ((with_reducible show wpAny _ _ (eval (PySem.Expr.ListComp _ _ _ _) _) _ _ _); (refine stop_of ?_)) | ((with_reducible show wpAny _ _ (exec (Stmt.Assign _ (PySem.Expr.DictComp _ _ _ _ _) _) _) _ _ _); (refine stop_of ?_)) | ((with_reducible show wpAny _ _ (exec (Stmt.Assign _ (PySem.Expr.ListComp _ _ _ _) _) _) _ _ _); (refine stop_of ?_)) | ((with_reducible show wpAny _ _ (call (Value.ref _) _) _ _ _); (refine stop_of ?_)) | walk1 | (dsimp only; walk1) | fail "no step")
      refine ⟨⟨_, _, [], rfl, F5, N5, fun _ h => (nomatch h), _, _, rfl, ?_⟩⟩
      rw [Int.fmod_eq_emod_of_nonneg _ (by decide)]
      omega
    case fin2 =>
      intro D2 h2 tk2 ys nw2 hx2 hM2 hD2 hall2
      obtain ⟨ms2, hi2, hb2, hlen2⟩ := ints_ex hall2
      have F5 := Ext.fr hx2 F4
      have N5 := Ext.news hx2 N4
      have hl5 : h2.IsList D2 ys.toArray := PySem.IsL.isList (hM2 _ (.head _)).1
      have hsb := sum_bounds ms2 hb2
      clear F4 N4 F3 N3
      (try dsimp only)
      repeat' (first | ((with_reducible show wpAny _ _ (call (Value.builtin "sum") _) _ _ _); (k_dflt (refine sumK rfl (by assumption) (by assumption) (by assumption) (by assumption) ?_); intro _ _ _ _ _)) | ((with_reducible show wpAny _ _ (subscriptTail _ _ _ _) _ _ _); ((with_reducible show wpAny _ _ (subscriptTail _ _ (Value.ref _) (Value.int _ _)) _ _ _); k_dflt (refine itemI (by assumption) (by assumption) (by omega) (by simp; omega) (by simp) ?_); intro _)) | ((with_reducible show wpAny _ _ (eval (PySem.Expr.Name _ _) _) _ _ _); (k_dflt (first | refine nameX_L (by assumption) (by assumption) ?_ | refine nameCL (by assumption) (by assumption) ?_ | refine nameCC (by assumption) (by assumption) rfl ?_))) | ((with_reducible show wpAny _ _ (eval (PySem.Expr.ListComp _ _ _ _) _) _ _ _); (refine stop_of ?_)) | ((with_reducible show wpAny _ _ (exec (Stmt.Assign _ (PySem.Expr.DictComp _ _ _ _ _) _) _) _ _ _); (refine stop_of ?_)) | ((with_reducible show wpAny _ _ (exec (Stmt.Assign _ (PySem.Expr.ListComp _ _ _ _) _) _) _ _ _); (refine stop_of ?_)) | ((with_reducible show wpAny _ _ (call (Value.ref _) _) _ _ _); (refine stop_of ?_)) | walk1 | (dsimp only; walk1) | fail "no step")
      rename Fr _ _ _ _ => F6
      rename News _ _ _ _ => N6
      have hj : ∀ j, j < 8 → 0 ≤ ([0, 1, 2, 1, 0, 2, 3, 5] : List Int).getD j 0 ∧ ([0, 1, 2, 1, 0, 2, 3, 5] : List Int).getD j 0 ≤ 5 := by decide
      have hj2 := hj (d : Int).toNat (by omega)
      refine ⟨⟨_, _, [], rfl, F6, cb_drop N6 (by intro p hp; exact .tail _ hp), fun _ h => (nomatch h), _, _, rfl, ?_⟩⟩
      have : ms2.length ≤ 100 := by omega
      generalize ([0, 1, 2, 1, 0, 2, 3, 5] : List Int).getD (d : Int).toNat 0 = z at *
      omega
  case fin =>
    intro D h2 tk2 ys nw2 hN hkeep hM hD hall
    obtain ⟨ms, hmi, hmb, hml⟩ := ints_ex hall
    have hkeep : ∀ b o, b ≠ L → _ → _ := hkeep
    have hgL : g.get? L = none := Heap.get?_none_of_le F2.above
    have F3 : Fr g L h2 _ := ⟨hN, fun b o e => hkeep b o (fun q => by rw [q, hgL] at e; cases e) (F2.keep b o e), F2.above⟩
    have hDn := (hM _ (.head _)).2
    have hDf := Mine.Fr.fresh F2 hDn
    have N3 : News g L _ (cells8 L o1 oS o3 o4 o5 o6 o7 o8 t1 t2) := cb_drop N2 (by
      intro p hp; unfold cells8 at hp; simp only [List.mem_cons, List.not_mem_nil, or_false] at hp ⊢; simp only [hp, or_true])
    have hDc := ne_all N3 hDn
    match ms, hml, hmi, hmb with
    | [n0, n1, n2, n3, n4, n5, n6, n7], _, hmi, hmb =>
      refine hnext h2 tk2 _ oS D ys n0 n1 n2 n3 n4 n5 n6 n7 F3 ?_ hDc rfl hmi hmb
      intro p hp
      rcases List.mem_cons.mp hp with rfl | hp
      · exact ⟨(hM _ (.head _)).1, hDf⟩
      · exact ⟨hkeep _ _ (N3 p hp).2.1 (N3 p hp).1, (N3 p hp).2⟩
end Mine
end PartSA

section PartSB
open PySem PySem.W PyProof.Rows PySem.Calls
namespace Mine
theorem offSB : True := by w_top off; trivial
local macro_rules | `(tactic| walk_at "pad SB") => `(tactic| skip)
variable {prog : Program} {w : World} {dp un : Nat} {gd : Option (List Code)} {fr : Option (List Env)} {s : Shared} {p : Program} {loose : List Str} {mean : ExcName → Option Value} {mg mb : Str → Option Value} {g : Heap} {Q : Flow → Shared → Prop} {E : Value → Shared → Prop}
section
variable {A : Around} {E : Value → Shared → Prop} {s : Shared} {a b c : Int} {t u : Tok} {Q : Value → Shared → Prop}
theorem modE (e : a.fmod b = c) (hb : b ≠ 0) (h1 : -18446744073709551616 < b) (h2 : b < 18446744073709551616) (h : Q (.int c s.toks) { s with toks := s.toks + 1 }) : wpAny (model prog w) A (binaryOp .Mod (.int a t) (.int b u)) Q E s := by
  subst e; exact mod_int hb h
theorem sumE {prog : Program} {w : World} {g : Heap} {L l : Addr} {m : Str → Option Value} {news : List (Addr × Obj)} {vs : List Value} {ns : List Int} {S : Int} (hh : A.handled = none) (F : Fr g L s.heap m) (N : News g L s.heap news) (hl : s.heap.IsList l vs.toArray) (hi : IntsAre vs ns) (e : ns.sum = S)
    (h : ∀ h' tk t', Fr g L h' m → News g L h' news → Q (.int S t') { s with heap := h', toks := tk }) :
    wpAny (model prog w) A (call (.builtin "sum") [.ref l]) Q E s := by
  subst e; exact sumK hh F N hl hi h
theorem cells_lt {d D L : Nat} {oD o1 o2 o3 o4 o5 o6 o7 o8 t1 t2 : Obj} (h : D < d ∧ L + 1 + 1 + 1 + 1 + 1 + 1 + 1 + 1 < d ∧ L + 1 + 1 + 1 + 1 + 1 + 1 + 1 < d ∧ L + 1 + 1 + 1 + 1 + 1 + 1 < d ∧ L + 1 + 1 + 1 + 1 + 1 < d ∧ L + 1 + 1 + 1 + 1 < d ∧ L + 1 + 1 + 1 < d ∧ L + 1 + 1 < d ∧ L + 1 < d ∧ 37 < d ∧ 30 < d) : ∀ q ∈ (D, oD) :: cells8 L o1 o2 o3 o4 o5 o6 o7 o8 t1 t2, @Ne Nat d q.1 := by
  obtain ⟨h0, h1, h2, h3, h4, h5, h6, h7, h8, h9, h10⟩ := h
  have : AllLt d ((D, oD) :: cells8 L o1 o2 o3 o4 o5 o6 o7 o8 t1 t2) := ⟨h0, h1, h2, h3, h4, h5, h6, h7, h8, h9, h10, trivial⟩
  exact fun q hq => Nat.ne_of_gt (lt_all this q hq)
theorem four {i : Int} (h0 : 0 ≤ i) (h1 : i < 4) : i = 0 ∨ i = 1 ∨ i = 2 ∨ i = 3 := by
  obtain ⟨n, rfl⟩ := Int.eq_ofNat_of_zero_le h0
  have h : n < 4 := Int.ofNat_lt.mp h1
  match n, h with
  | 0, _ => exact .inl rfl
  | 1, _ => exact .inr (.inl rfl)
  | 2, _ => exact .inr (.inr (.inl rfl))
  | 3, _ => exact .inr (.inr (.inr rfl))
theorem fmod4 (a : Int) : a.fmod 4 = 0 ∨ a.fmod 4 = 1 ∨ a.fmod 4 = 2 ∨ a.fmod 4 = 3 := by
  rw [Int.fmod_eq_emod_of_nonneg _ (by decide)]
  exact four (Int.emod_nonneg _ (by decide)) (Int.emod_lt_of_pos _ (by decide))
theorem pickS {value slice : Expr} {i : Int} {t u : Tok} {Q : Value → Shared → Prop} (hi : i = 0 ∨ i = 1 ∨ i = 2 ∨ i = 3) (h : ∀ t' k, Q (.str (sgF i) t') { s with toks := k })
    (hs : subscripted slice false (.str (Str.ofString "<>*/") t) (.int i u) = operate [.str (Str.ofString "<>*/") t, .int i u] (getItem (.str (Str.ofString "<>*/") t) (.int i u)) := by with_unfolding_all rfl)
    (ht : ∀ r, letTemporaryGo value (.str (Str.ofString "<>*/") t) r = pure () := by intro _; with_unfolding_all rfl) :
    wpAny (model prog w) A (subscriptTail value slice (.str (Str.ofString "<>*/") t) (.int i u)) Q E s := by
  have e : Txt.item (Str.ofString "<>*/") i = sgF i := by rcases hi with rfl | rfl | rfl | rfl <;> decide
  refine item_str (by rcases hi with rfl | rfl | rfl | rfl <;> decide) (by rcases hi with rfl | rfl | rfl | rfl <;> decide) (by rcases hi with rfl | rfl | rfl | rfl <;> decide) (fun _ => ?_) hs ht
  rw [e]; exact h _ _
def pk4 (i : Int) (a b c d : Addr) : Addr := if i = 0 then a else if i = 1 then b else if i = 2 then c else d
theorem pickL {value slice : Expr} {i : Int} {l a b c d : Addr} {u : Tok} {Q : Value → Shared → Prop} (hl : s.heap.IsList l [.ref a, .ref b, .ref c, .ref d].toArray) (hi : i = 0 ∨ i = 1 ∨ i = 2 ∨ i = 3) (h : Q (.ref (pk4 i a b c d)) s)
    (hs : subscripted slice false (.ref l) (.int i u) = operate [.ref l, .int i u] (getItem (.ref l) (.int i u)) := by with_unfolding_all rfl) (hg : ∀ r, letTemporaryGo value (.ref l) r = pure () := by intro _; with_unfolding_all rfl) :
    wpAny (model prog w) A (subscriptTail value slice (.ref l) (.int i u)) Q E s :=
  itemB hl (by omega) (by omega) (by rcases hi with rfl | rfl | rfl | rfl <;> rfl) h hs hg
end
local macro_rules | `(tactic| k_ne) => `(tactic| (refine neN ?_; (try dsimp only); assumption))
set_option maxRecDepth 100000 in
set_option maxHeartbeats 8000000 in
set_option pp.deepTerms false in
set_option pp.deepTerms.threshold 8 in
theorem segB {L fa D : Addr} {cd : Value} {m : Str → Option Value} {ys : List Value} {n0 n1 n2 n3 n4 n5 n6 n7 : Int} {o1 o2 o3 o4 o5 o6 o7 o8 t1 t2 : Obj} (K : Base w p loose mean mg mb g) (F : Fr g L s.heap m) (N : News g L s.heap ((D, lst ys ys.length) :: cells8 L o1 o2 o3 o4 o5 o6 o7 o8 t1 t2)) (hun : un + 200 < cLine)
    (d3 : o3.data = .cell none) (d4 : o4.data = .cell none) (d5 : o5.data = .cell none) (l0 : (37 : Nat) < L ∧ (30 : Nat) < L) (hD : ∀ q ∈ cells8 L o1 o2 o3 o4 o5 o6 o7 o8 t1 t2, @Ne Nat D q.1)
    (hm : m (Str.ofString "numbers") = some (.ref D)) (hI : IntsAre ys [n0, n1, n2, n3, n4, n5, n6, n7]) (hb : ∀ n ∈ [n0, n1, n2, n3, n4, n5, n6, n7], 0 ≤ n ∧ n ≤ 10000)
    (hnext : ∀ h' tk' m' o3' o4' o5' Dt vt e i c B ts tc tB, i ∈ ([0, 1, 2, 3] : List Int) → c ∈ ([0, 1, 2, 3] : List Int) → 256 ≤ B ∧ B < 100000000000 → Fr g L h' m' → News g L h' ((Dt, lst vt e) :: (D, lst ys ys.length) :: cells8 L o1 o2 o3' o4' o5' o6 o7 o8 t1 t2) →
      (∀ q ∈ (D, lst ys ys.length) :: cells8 L o1 o2 o3' o4' o5' o6 o7 o8 t1 t2, @Ne Nat Dt q.1) → m' (Str.ofString "numbers") = some (.ref D) → m' (Str.ofString "base") = some (.int B tB) →
      o3'.data = .cell (some (.str (sgF i) ts)) → o4'.data = .cell (some (.int c tc)) → o5'.data = .cell (some (.ref Dt)) → IntsAre vt (toldF i) →
      wpAny (model prog w) (AA dp un gd fr) (execs ((bodyOf lawS).drop 7) (envOfC (Str.ofString "law") (scopeOf lawS) L fa cd)) Q E { s with heap := h', toks := tk' }) :
    wpAny (model prog w) (AA dp un gd fr) (execs ((bodyOf lawS).drop 2) (envOfC (Str.ofString "law") (scopeOf lawS) L fa cd)) Q E s := by
  dsimp only [lawS, nth, bodyOf, scopeOf, PySem.Challenge.pw_qu0053_01, List.drop]
  have q5 : @Ne Nat D (L + 1 + 1 + 1 + 1 + 1) := hD _ (.tail _ (.tail _ (.tail _ (.head _))))
  have q4 : @Ne Nat D (L + 1 + 1 + 1 + 1) := hD _ (.tail _ (.tail _ (.tail _ (.tail _ (.head _)))))
  have q3 : @Ne Nat D (L + 1 + 1 + 1) := hD _ (.tail _ (.tail _ (.tail _ (.tail _ (.tail _ (.head _))))))
  simp only [cells8] at N
  have X := K.X
  have T := K.T
  have hsb := sum_bounds _ hb
  generalize hS : [n0, n1, n2, n3, n4, n5, n6, n7].sum = S at *
  have hS0 : 0 ≤ S ∧ S ≤ 80000 := by simp at hsb; omega
  obtain ⟨r, hr⟩ : ∃ r, S.fmod 24 = r := ⟨_, rfl⟩
  obtain ⟨q, hq⟩ : ∃ q, S.fdiv 4 = q := ⟨_, rfl⟩
  obtain ⟨c, hc⟩ : ∃ c, (S.fdiv 4).fmod 4 = c := ⟨_, rfl⟩
  obtain ⟨i, hi⟩ : ∃ i, S.fmod 4 = i := ⟨_, rfl⟩
  have hi4 : i = 0 ∨ i = 1 ∨ i = 2 ∨ i = 3 := by rw [← hi]; exact fmod4 S
  have hcm : c ∈ ([0, 1, 2, 3] : List Int) := by
    have : c = 0 ∨ c = 1 ∨ c = 2 ∨ c = 3 := by rw [← hc]; exact fmod4 _
    rcases this with h | h | h | h <;> rw [h] <;> decide
  have hB : (256 : Int) ≤ 2 ^ (8 + r).toNat ∧ (2 : Int) ^ (8 + r).toNat < 100000000000 := by
    rw [Int.fmod_eq_emod_of_nonneg _ (by decide)] at hr
    have r0 : 0 ≤ r := by rw [← hr]; exact Int.emod_nonneg _ (by decide)
    have r1 : r < 24 := by rw [← hr]; exact Int.emod_lt_of_pos _ (by decide)
    have h1 : 2 ^ 8 ≤ 2 ^ (8 + r).toNat := Nat.pow_le_pow_right (by decide) (by clear hD N F K hr hb hsb hi4 hcm; omega)
    have h2 : 2 ^ (8 + r).toNat ≤ 2 ^ 31 := Nat.pow_le_pow_right (by decide) (by clear hD N F K hr hb hsb hi4 hcm; omega)
    have e : (((2 ^ (8 + r).toNat : Nat)) : Int) = (2 : Int) ^ (8 + r).toNat := by simp
    rw [← e]
    exact ⟨Int.ofNat_le.mpr h1, Int.ofNat_lt.mpr (Nat.lt_of_le_of_lt h2 (by decide))⟩
  repeat' (first | ((with_reducible show wpAny _ _ (subscriptTail _ _ _ _) _ _ _); (first | ((with_reducible show wpAny _ _ (subscriptTail _ _ (Value.str _ _) _) _ _ _); k_dflt (refine pickS (by assumption) ?_); intro _ _) | ((with_reducible show wpAny _ _ (subscriptTail _ _ (Value.ref _) (Value.int _ _)) _ _ _); k_dflt (refine pickL (IsL.isList (News.get (by assumption) (.head _))) (by assumption) ?_)))) | ((with_reducible show wpAny _ _ (binaryOp Operator.Mod (Value.int _ _) (Value.int _ _)) _ _ _); (k_dflt (refine modE (by assumption) (by decide) (by decide) (by decide) ?_))) | ((with_reducible show wpAny _ _ (call (Value.builtin "sum") _) _ _ _); (k_dflt (refine sumE rfl (by assumption) (by assumption) (IsL.isList (News.get (by assumption) (by k_mem))) (by assumption) (by assumption) ?_); intro _ _ _ _ _)) | ((with_reducible show wpAny _ _ (eval (PySem.Expr.Name _ _) _) _ _ _); (k_dflt (first | refine nameX_L (by assumption) (by assumption) ?_ | refine nameCL (by assumption) (by assumption) ?_ | refine nameCC (by assumption) (by assumption) rfl ?_))) | ((with_reducible show wpAny _ _ (eval (PySem.Expr.ListComp _ _ _ _) _) _ _ _); (refine stop_of ?_)) | ((with_reducible show wpAny _ _ (eval (PySem.Expr.DictComp _ _ _ _ _) _) _ _ _); (refine stop_of ?_)) | ((with_reducible show wpAny _ _ (execs (Stmt.Assign _ (Expr.DictComp _ _ _ _ _) _ :: _) _) _ _ _); refine stop_of ?_) | ((with_reducible show wpAny _ _ (exec (Stmt.Assign _ (PySem.Expr.DictComp _ _ _ _ _) _) _) _ _ _); (refine stop_of ?_)) | ((with_reducible show wpAny _ _ (exec (Stmt.Assign _ (PySem.Expr.ListComp _ _ _ _) _) _) _ _ _); (refine stop_of ?_)) | ((with_reducible show wpAny _ _ (call (Value.ref _) _) _ _ _); (refine stop_of ?_)) | walk1 | (dsimp only; walk1) | fail "no step")
  all_goals refine ⟨?_⟩
  all_goals rename Fr _ _ _ _ => F9
  all_goals rename News _ _ _ _ => N9
  all_goals rename_i o3' d3' hx7 o4' d4' hx6 lt0 hx5 la4 lt1 hx4 la3 lt2 hx3 la2 lt3 hx2 la1 lt4 hx1 la0 ke km hx0 o5' d5'
  all_goals have Nc : News g L hx0 ((D, lst ys ys.length) :: cells8 L o1 o2 o3' o4' o5' o6 o7 o8 t1 t2) := fun p hp => N9 p (.tail _ (.tail _ (.tail _ (.tail _ (.tail _ hp)))))
  · subst ke
    clear la0 la3 la2 la1
    obtain ⟨vt, z, hvi⟩ : ∃ vt : List Value, (hx0.get? lt0 = some (lst vt 0) ∧ lt0 ≠ L ∧ g.get? lt0 = none) ∧ IntsAre vt [20, 33, 29, 44, 27, 11] := ⟨_, N9 (lt0, _) (by k_mem), by repeat' constructor⟩
    refine hnext _ _ _ o3' o4' o5' lt0 vt 0 0 c (2 ^ (8 + r).toNat) _ _ _ (by decide) hcm hB F9 (List.forall_mem_cons.mpr ⟨z, Nc⟩) ?_ ?_ rfl d3' d4' d5' hvi
    · exact cells_lt la4
    · show (if _ then _ else if _ then _ else _) = _
      rw [if_neg (by decide), if_neg (by decide)]; exact hm
  · subst ke
    clear la0 la4 la2 la1
    obtain ⟨vt, z, hvi⟩ : ∃ vt : List Value, (hx0.get? lt1 = some (lst vt 0) ∧ lt1 ≠ L ∧ g.get? lt1 = none) ∧ IntsAre vt [21, 34, 30, 45, 27, 11] := ⟨_, N9 (lt1, _) (by k_mem), by repeat' constructor⟩
    refine hnext _ _ _ o3' o4' o5' lt1 vt 0 1 c (2 ^ (8 + r).toNat) _ _ _ (by decide) hcm hB F9 (List.forall_mem_cons.mpr ⟨z, Nc⟩) ?_ ?_ rfl d3' d4' d5' hvi
    · exact cells_lt la3.2
    · show (if _ then _ else if _ then _ else _) = _
      rw [if_neg (by decide), if_neg (by decide)]; exact hm
  · subst ke
    clear la0 la4 la3 la1
    obtain ⟨vt, z, hvi⟩ : ∃ vt : List Value, (hx0.get? lt2 = some (lst vt 0) ∧ lt2 ≠ L ∧ g.get? lt2 = none) ∧ IntsAre vt [16, 35, 38, 46, 27, 11] := ⟨_, N9 (lt2, _) (by k_mem), by repeat' constructor⟩
    refine hnext _ _ _ o3' o4' o5' lt2 vt 0 2 c (2 ^ (8 + r).toNat) _ _ _ (by decide) hcm hB F9 (List.forall_mem_cons.mpr ⟨z, Nc⟩) ?_ ?_ rfl d3' d4' d5' hvi
    · exact cells_lt la2.2.2
    · show (if _ then _ else if _ then _ else _) = _
      rw [if_neg (by decide), if_neg (by decide)]; exact hm
  · subst ke
    clear la0 la4 la3 la2
    obtain ⟨vt, z, hvi⟩ : ∃ vt : List Value, (hx0.get? lt3 = some (lst vt 0) ∧ lt3 ≠ L ∧ g.get? lt3 = none) ∧ IntsAre vt [17, 47, 39, 48, 27, 11] := ⟨_, N9 (lt3, _) (by k_mem), by repeat' constructor⟩
    refine hnext _ _ _ o3' o4' o5' lt3 vt 0 3 c (2 ^ (8 + r).toNat) _ _ _ (by decide) hcm hB F9 (List.forall_mem_cons.mpr ⟨z, Nc⟩) ?_ ?_ rfl d3' d4' d5' hvi
    · exact cells_lt la1.2.2.2
    · show (if _ then _ else if _ then _ else _) = _
      rw [if_neg (by decide), if_neg (by decide)]; exact hm
end Mine
end PartSB

section PartTT
open PySem PySem.W PyProof.Rows PySem.Calls
namespace Mine
def keyS : Value → Str
  | .str x _ => x
  | _ => Str.empty
def intS : Value → Int
  | .int n _ => n
  | _ => 0
def pairsE (l : List DictEntry) : List (Str × Value) := l.map fun e => (keyS e.key, e.val)
theorem pairs_of {prog : Program} {w : World} : ∀ {l : List DictEntry}, KeysLit w.params l → Pairs (strKind prog w) l (pairsE l)
  | [], _ => .nil
  | e :: r, ⟨⟨x, t, h1, _⟩, h2⟩ => .cons (by show (strKind prog w).is (keyS e.key) e.key = true; rw [h1]; exact strKind_is prog w x t) rfl (pairs_of h2)
def esOf : Option Obj → List DictEntry
  | some o => match o.data with
    | .dict es _ => es.toList
    | _ => []
  | none => []
noncomputable def tokE (P : Params) : List DictEntry := esOf ((KK P).lookup 64)
noncomputable def TT (P : Params) : List (Str × Int) := (tokE P).map fun e => (keyS e.key, intS e.val)
theorem tok_obj (P : Params) : (KK P).lookup 64 = some { cls := .type "dict", data := .dict (tokE P).toArray 48 } := rfl
theorem tok_keys (P : Params) : KeysLit P (tokE P) := by
  show KeysLit P (_ :: _)
  repeat' (first | exact True.intro | refine ⟨⟨_, _, rfl, rfl⟩, ?_⟩)
theorem tok_ints (P : Params) : (tokE P).all (fun e => match e.val with | .int _ _ => true | _ => false) = true := rfl
theorem tok_nodup (P : Params) : ((pairsE (tokE P)).map (·.1)).Nodup := of_decide_eq_true (by kernel_rfl)
theorem tok_in (P : Params) : ∀ i ∈ ([0, 1, 2, 3] : List Int), ∀ k ∈ [0, 1, 2, 3, 4, 5], (opF i k, (toldF i).getD k 0) ∈ TT P := of_decide_eq_true (by kernel_rfl)
theorem tok_uniq (P : Params) : ∀ x ∈ TT P, ∀ i ∈ ([0, 1, 2, 3] : List Int), ∀ k ∈ [0, 1, 2, 3, 4, 5], x.2 = (toldF i).getD k 0 → x.1 = opF i k := of_decide_eq_true (by kernel_rfl)
end Mine
end PartTT

section PartSN
open PySem PySem.W PyProof.Rows PySem.Calls
namespace Mine
theorem offSN : True := by w_top off; trivial
variable {prog : Program} {w : World} {dp un : Nat} {gd : Option (List Code)} {fr : Option (List Env)} {s : Shared} {p : Program} {loose : List Str} {mean : ExcName → Option Value} {mg mb : Str → Option Value} {g : Heap} {Q : Flow → Shared → Prop} {E : Value → Shared → Prop}
section
variable {M : Model} {A : Around} {C : Addr} {m' : Str → Option Value} {scope : Scope} {cl : List (Str × Addr)} {env : Env} {x : Str} {pos : Pos} {v : Value} {K : Frag} {Q : Value → Shared → Prop}
theorem nameG0 (X : K.In s.heap) (T : Top p loose mean mg mb s.heap) (e : nsIn K mainGlobals x = some (some v)) (h : Q v s) (hg : env.globals = mainGlobals := by rfl)
    (hk : env.scope.kind = .function := by rfl) (hx : env.kindOf x = some .globalImplicit := by rfl) (hd : (x == ("__debug__" : Str)) = false := by decide) :
    wpAny M A (eval (.Name x pos) env) Q E s := Name_function_global hk hx (loadGlobal_global (env := env) (show s.heap.Ns env.globals mg from hg ▸ T.g) (mg_of X T.g e) h) hd
theorem nameL0 (hn : s.heap.Ns C m') (hx : m' x = some v) (h : Q v s)
    (hk : (compEnvC scope cl C env).scope.kind = .function := by rfl) (hl : (compEnvC scope cl C env).kindOf x = some .local := by rfl) (hd : (x == ("__debug__" : Str)) = false := by decide) :
    wpAny M A (eval (.Name x pos) (compEnvC scope cl C env)) Q E s := wpAny_Name (wpAny_loadName_local hk hl hn hx h) hd
theorem dictItem {kvs : List (Str × Value)} {value slice : PySem.Expr} {d : Addr} {k : Str} {t : Tok} (hd : s.heap.DictOf (strKind prog w) d kvs) (hv : valueAt kvs k = some v) (h : Q v { s with toks := s.toks + 1 })
    (hs : subscripted slice false (.ref d) (.str k t) = operate [.ref d, .str k t] (getItem (.ref d) (.str k t)) := by with_unfolding_all rfl) :
    wpAny (model prog w) A (subscriptTail value slice (.ref d) (.str k t)) Q E s :=
  tail_any hd.mapOf.typeIs PySem.F.slot_dict_getitem.lookup (wpAny_getItem_of (strKind_is prog w k t) hd.mapOf hv h) hs
end
theorem value_of_mem {K : Type} [DecidableEq K] : ∀ {kvs : List (K × Value)} {k : K} {v : Value}, (kvs.map (·.1)).Nodup → (k, v) ∈ kvs → valueAt kvs k = some v
  | (k', v') :: r, k, v, hn, hm => by
    unfold valueAt
    rcases List.mem_cons.mp hm with e | hm
    · cases e; simp
    · obtain ⟨h1, h2⟩ := List.nodup_cons.mp (show (k' :: r.map (·.1)).Nodup from hn)
      have hne : k' ≠ k := fun q => h1 (by rw [q]; exact List.mem_map.mpr ⟨_, hm, rfl⟩)
      rw [List.find?_cons]
      simp only [hne, decide_false]
      exact value_of_mem h2 hm
theorem tok_at {P : Params} {x : Str} {n : Int} (h : (x, n) ∈ TT P) : ∃ t, (x, Value.int n t) ∈ pairsE (tokE P) := by
  obtain ⟨e, he, heq⟩ := List.mem_map.mp h
  have hi := List.all_eq_true.mp (tok_ints P) e he
  cases heq
  cases hv : e.val with
  | int k t => exact ⟨t, List.mem_map.mpr ⟨e, he, by rw [hv]; rfl⟩⟩
  | _ => rw [hv] at hi; cases hi
def FK (P : Params) (v : Value) (k : Int) : Prop := ∃ x t, v = .str x t ∧ (x, k) ∈ TT P
def FV (v y : Value) : Prop := ∃ x t, v = .str x t ∧ y = .str x t
theorem valueAt_cons {K : Type} [DecidableEq K] (kv : K × Value) (r : List (K × Value)) (k : K) : valueAt (kv :: r) k = if kv.1 = k then some kv.2 else valueAt r k := by
  unfold valueAt
  rw [List.find?_cons]
  by_cases h : kv.1 = k <;> simp [h]
theorem valueAt_map {K : Type} [DecidableEq K] (k k' : K) (v : Value) : ∀ kvs : List (K × Value), valueAt (kvs.map fun kv => if kv.1 = k then (kv.1, v) else kv) k' = if k' = k then (if (kvs.any fun kv => kv.1 = k) = true then some v else none) else valueAt kvs k'
  | [] => by simp [valueAt]
  | kv :: r => by
    rw [List.map_cons, valueAt_cons, valueAt_map k k' v r, List.any_cons, valueAt_cons]
    by_cases h : kv.1 = k
    · by_cases h2 : k' = k
      · subst h2; simp [h]
      · have : ¬ kv.1 = k' := fun q => h2 (q.symm.trans h)
        have h3 : ¬ k = k' := fun q => h2 q.symm
        simp [h, h2, h3]
    · by_cases h2 : k' = k
      · subst h2; simp only [h, if_false, if_true, decide_false, Bool.false_or]
      · simp [h, h2]
theorem valueAt_app {K : Type} [DecidableEq K] (k k' : K) (v : Value) : ∀ kvs : List (K × Value), valueAt (kvs ++ [(k, v)]) k' = if (kvs.any fun kv => kv.1 = k') = true then valueAt kvs k' else (if k' = k then some v else none)
  | [] => by
    rw [List.nil_append, valueAt_cons]
    by_cases h : k = k'
    · subst h; simp
    · have : ¬ k' = k := fun q => h q.symm
      simp [h, this, valueAt]
  | kv :: r => by
    rw [List.cons_append, valueAt_cons, valueAt_app k k' v r, List.any_cons, valueAt_cons]
    by_cases h : kv.1 = k'
    · simp [h]
    · simp only [h, if_false, decide_false, Bool.false_or]
theorem valueAt_stored {K : Type} [DecidableEq K] (kvs : List (K × Value)) (k k' : K) (v : Value) : valueAt (stored kvs k v) k' = if k' = k then some v else valueAt kvs k' := by
  unfold stored
  cases ha : kvs.any fun kv => kv.1 = k with
  | true => rw [if_pos rfl, valueAt_map, ha]; simp
  | false =>
    rw [if_neg (by simp), valueAt_app]
    by_cases h : k' = k
    · subst h; rw [ha]; simp
    · rw [if_neg h, if_neg h]
      split
      · rfl
      · rename_i q
        have : kvs.find? (fun kv => kv.1 = k') = none := by
          rw [List.find?_eq_none]; intro x hx hx2
          exact q (List.any_eq_true.mpr ⟨x, hx, hx2⟩)
        simp [valueAt, this]
theorem stored_mem {P : Params} {vs : List Value} {kvs : List (Int × Value)} (h : StoredAll (FK P) FV vs kvs) :
    (∀ k y, valueAt kvs k = some y → ∃ x t, y = .str x t ∧ (x, k) ∈ TT P) ∧ (∀ v ∈ vs, ∀ x t, v = .str x t → ∃ k, (x, k) ∈ TT P ∧ (valueAt kvs k).isSome = true) := by
  induction h with
  | nil => exact ⟨fun k y h => by simp [valueAt] at h, fun v h => nomatch h⟩
  | @snoc l kvs v k y _ hk hv ih =>
    obtain ⟨ih1, ih2⟩ := ih
    obtain ⟨x, t, rfl, hm⟩ := hk
    obtain ⟨x', t', e, rfl⟩ := hv
    cases e
    refine ⟨fun k' y' h => ?_, fun v' hv' x' t' e => ?_⟩
    · rw [valueAt_stored] at h
      split at h
      · cases h; rename_i q; subst q; exact ⟨_, _, rfl, hm⟩
      · exact ih1 _ _ h
    · rcases List.mem_append.mp hv' with hv' | hv'
      · obtain ⟨k', h1, h2⟩ := ih2 v' hv' x' t' e
        refine ⟨k', h1, ?_⟩
        rw [valueAt_stored]
        split
        · rfl
        · exact h2
      · rw [List.mem_singleton.mp hv'] at e
        cases e
        exact ⟨k, hm, by rw [valueAt_stored, if_pos rfl]; rfl⟩
local macro_rules | `(tactic| k_ne) => `(tactic| (refine neN ?_; (try dsimp only); assumption))
set_option maxRecDepth 100000 in
set_option maxHeartbeats 8000000 in
set_option pp.deepTerms false in
set_option pp.deepTerms.threshold 8 in
theorem segN {L fa Dt Dn : Addr} {oDt oDn : Obj} {cd : Value} {m : Str → Option Value} {o1 o2 o3 o4 o5 o6 o7 o8 t1 t2 : Obj} (K : Base w p loose mean mg mb g) (F : Fr g L s.heap m) (N : News g L s.heap ((Dt, oDt) :: (Dn, oDn) :: cells8 L o1 o2 o3 o4 o5 o6 o7 o8 t1 t2)) (hun : un + 200 < cLine)
    (d6 : o6.data = .cell none) (l0 : (37 : Nat) < L ∧ (30 : Nat) < L) (hDt : ∀ q ∈ (Dn, oDn) :: cells8 L o1 o2 o3 o4 o5 o6 o7 o8 t1 t2, @Ne Nat Dt q.1) (hDn : ∀ q ∈ cells8 L o1 o2 o3 o4 o5 o6 o7 o8 t1 t2, @Ne Nat Dn q.1)
    (hnext : ∀ h' tk' o6' D oD kvs, Fr g L h' m → News g L h' ((D, oD) :: (Dt, oDt) :: (Dn, oDn) :: cells8 L o1 o2 o3 o4 o5 o6' o7 o8 t1 t2) → (∀ q ∈ (Dt, oDt) :: (Dn, oDn) :: cells8 L o1 o2 o3 o4 o5 o6' o7 o8 t1 t2, @Ne Nat D q.1) → o6'.data = .cell (some (.ref D)) →
      oD.IsDictOf (intKind prog w) kvs → (∀ i ∈ ([0, 1, 2, 3] : List Int), ∀ k ∈ [0, 1, 2, 3, 4, 5], ∃ t, valueAt kvs ((toldF i).getD k 0) = some (.str (opF i k) t)) →
      wpAny (model prog w) (AA dp un gd fr) (execs ((bodyOf lawS).drop 8) (envOfC (Str.ofString "law") (scopeOf lawS) L fa cd)) Q E { s with heap := h', toks := tk' }) :
    wpAny (model prog w) (AA dp un gd fr) (execs ((bodyOf lawS).drop 7) (envOfC (Str.ofString "law") (scopeOf lawS) L fa cd)) Q E s := by
  dsimp only [lawS, nth, bodyOf, scopeOf, PySem.Challenge.pw_qu0053_01, List.drop]
  simp only [cells8] at N
  have X := K.X
  have T := K.T
  repeat' (first | ((with_reducible show wpAny _ _ (subscriptTail _ _ _ _) _ _ _); ((with_reducible show wpAny _ _ (subscriptTail _ _ (Value.ref _) (Value.str _ _)) _ _ _); k_dflt (refine dictItem (by assumption) (by assumption) ?_))) | ((with_reducible show wpAny _ _ (eval (PySem.Expr.Name _ _) _) _ _ _); (k_dflt (first | refine nameL0 (by assumption) (by assumption) ?_ | refine nameG0 (by assumption) (by assumption) (by k_is) ?_))) | ((with_reducible show wpAny _ _ (execs (Stmt.Assign _ (Expr.ListComp _ _ _ _) _ :: _) _) _ _ _); refine stop_of ?_) | ((with_reducible show wpAny _ _ (eval (PySem.Expr.DictComp _ _ _ _ _) _) _ _ _); (refine stop_of ?_)) | walk1 | (dsimp only; walk1) | fail "no step")
  refine ⟨?_⟩
  refine wpAny_DictComp_free (intKind prog w) (fun _ => true) (FK w.params) FV (by with_unfolding_all rfl) (by decide) rfl (by decide) rfl ?_
  walk1
  have hD64 : s.heap.DictAt (strKind prog w) 64 (pairsE (tokE w.params)) 48 := ⟨_, _, (K.X.keeps F.keep) _ _ (tok_obj w.params), ⟨rfl, rfl, rfl⟩, rfl, fun e he => by
    obtain ⟨x, t, e1, e2⟩ := (tok_keys w.params).all e (by simpa using he)
    exact ⟨x, by rw [e1]; exact strKind_is prog w x t, e2⟩, pairs_of (tok_keys w.params), tok_nodup w.params⟩
  have hpush : Ext s.heap (s.heap.push { cls := .type "dict_keyiterator", data := .fields #[.ref 64, .int 0 0, .int (pairsE (tokE w.params)).length 0, .int 48 0] }) := fun b o e => Heap.get?_push_of_some _ e
  have h64 : @LT.lt Nat instLTNat 64 s.heap.objs.size := by obtain ⟨o, _, e, _⟩ := hD64; exact Heap.lt_size e
  have hlen : (pairsE (tokE w.params)).length = 48 := rfl
  refine wpAny_pyIter_dict (by decide) hD64 ?_
  refine ⟨s.heap.objs.size, [s.heap.objs.size, 64], [s.heap.objs.size], (pairsE (tokE w.params)).length, _, _, rfl, Walks.dictKeys (knd := strKind prog w) rfl _ 64 (Nat.ne_of_lt h64) (pairsE (tokE w.params)) 48, by rw [hlen, sizeLine_eq]; decide,
    ⟨⟨_, Heap.get?_push_size _ rfl, rfl, rfl⟩, hD64.at' fun o e => hpush _ _ e⟩, ?fp, ⟨?tests, ?key, ?val⟩, ?fin⟩
  case fp =>
    intro b hb
    show @LT.lt Nat instLTNat b (s.heap.push _).objs.size
    rw [Heap.size_push]
    rcases List.mem_cons.mp hb with rfl | hb
    · exact Nat.lt_succ_self _
    · rw [List.mem_singleton.mp hb]; exact Nat.lt_succ_of_lt h64
  case tests => intro C i v s₃ m₃ E' _ _ _ _; exact wpAny_tests_nil ⟨rfl, _, _, rfl, fun _ _ e => e⟩
  case key =>
    intro C i v s₃ m₃ E' hP _ hn hm hk
    obtain ⟨k, x, hx, hkey⟩ := hP
    obtain ⟨t, rfl⟩ := Value.isStrOf_shape hkey
    have hk2 : Ext s.heap s₃.heap := fun b o e => hk b o (by simpa using Nat.ne_of_lt (Heap.lt_size e)) (hpush _ _ e)
    have X3 := (K.X.keeps F.keep).keeps hk2
    have T3 := (K.T.keeps F.keep).keeps hk2
    have hd3 : s₃.heap.DictOf (strKind prog w) 64 (pairsE (tokE w.params)) := (hD64.at' fun o e => hk2 _ _ e).dictOf
    have hmem := List.mem_of_getElem? hx
    have hv3 := value_of_mem (tok_nodup w.params) hmem
    obtain ⟨e, he, heq⟩ := List.mem_map.mp hmem
    have hi := List.all_eq_true.mp (tok_ints w.params) e he
    cases heq
    have hTT : (keyS e.key, intS e.val) ∈ TT w.params := List.mem_map.mpr ⟨e, he, rfl⟩
    clear F N X T
    refine wpAny_mono (Q := fun key s₄ => Stop ((∃ k, (intKind prog w).is k key = true ∧ FK w.params (.str (keyS e.key) t) k) ∧ Keeps s₃ s₄)) ?_ (fun _ _ h => h.out) fun _ _ e => e
    repeat' (first | ((with_reducible show wpAny _ _ (subscriptTail _ _ _ _) _ _ _); ((with_reducible show wpAny _ _ (subscriptTail _ _ (Value.ref _) (Value.str _ _)) _ _ _); k_dflt (refine dictItem (by assumption) (by assumption) ?_))) | ((with_reducible show wpAny _ _ (eval (PySem.Expr.Name _ _) _) _ _ _); (k_dflt (first | refine nameL0 (by assumption) (by assumption) ?_ | refine nameG0 (by assumption) (by assumption) (by k_is) ?_))) | ((with_reducible show wpAny _ _ (execs (Stmt.Assign _ (Expr.ListComp _ _ _ _) _ :: _) _) _ _ _); refine stop_of ?_) | ((with_reducible show wpAny _ _ (eval (PySem.Expr.DictComp _ _ _ _ _) _) _ _ _); (refine stop_of ?_)) | walk1 | (dsimp only; walk1) | fail "no step")
    obtain ⟨n, tn, hen⟩ : ∃ n tn, e.val = Value.int n tn := by
      cases hv : e.val with
      | int n tn => exact ⟨n, tn, rfl⟩
      | _ => rw [hv] at hi; cases hi
    rw [hen] at hTT ⊢
    exact ⟨⟨n, intKind_is prog w n tn, _, _, rfl, hTT⟩, _, _, rfl, fun _ _ e => e⟩
  case val =>
    intro C i v s₃ m₃ E' hP _ hn hm hk
    obtain ⟨k, x, hx, hkey⟩ := hP
    obtain ⟨t, rfl⟩ := Value.isStrOf_shape hkey
    refine nameL0 hn hm ⟨⟨_, _, rfl, rfl⟩, _, _, rfl, fun _ _ e => e⟩
  case fin =>
    intro D h' tk kvs vs hDf hDict hvl hvP hF hk
    have hk2 : Ext s.heap h' := fun b o e => hk b o (by simpa using Nat.ne_of_lt (Heap.lt_size e)) (hpush _ _ e)
    have hDf2 : s.heap.get? D = none := by
      cases q : s.heap.get? D with
      | none => rfl
      | some o => exact absurd (hDf.symm.trans (hpush _ _ q)) (by simp)
    have hvals : ∀ i ∈ ([0, 1, 2, 3] : List Int), ∀ k ∈ [0, 1, 2, 3, 4, 5], ∃ t, valueAt kvs ((toldF i).getD k 0) = some (.str (opF i k) t) := by
      intro i hi k hk3
      rw [List.filter_eq_self.mpr (fun _ _ => rfl)] at hF
      obtain ⟨m1, m2⟩ := stored_mem hF
      have hin := tok_in w.params i hi k hk3
      obtain ⟨tv, hpair⟩ := tok_at hin
      obtain ⟨j, hj⟩ := List.mem_iff_getElem?.mp hpair
      have hjl : j < vs.length := by rw [hvl]; exact (List.getElem?_eq_some_iff.mp hj).1
      obtain ⟨k', x', hk', hkk⟩ := hvP j vs[j] (by simp [hjl])
      rw [hj] at hk'
      cases hk'
      obtain ⟨t', ht'⟩ := Value.isStrOf_shape hkk
      obtain ⟨n, hn1, hn2⟩ := m2 _ (List.getElem_mem hjl) _ _ ht'
      have hn : n = (toldF i).getD k 0 := by
        have u1 := tok_nodup w.params
        obtain ⟨tn, hpn⟩ := tok_at hn1
        have e1 := value_of_mem u1 hpn
        rw [value_of_mem u1 hpair] at e1
        cases e1; rfl
      subst hn
      obtain ⟨y, hy⟩ := Option.isSome_iff_exists.mp hn2
      obtain ⟨x3, t3, rfl, hm3⟩ := m1 _ _ hy
      have := tok_uniq w.params _ hm3 i hi k hk3 rfl
      dsimp only at this
      subst this
      exact ⟨t3, hy⟩
    obtain ⟨oD, hoD, hDict⟩ := Heap.dictOf_iff.mp hDict
    have F2 := Ext.fr hk2 F
    have hne := ne_all N hDf2
    have N2 := Mine.News.one hoD (Mine.Fr.fresh F hDf2) (Ext.news hk2 N)
    have q1 : @Ne Nat D (L + 1 + 1 + 1 + 1 + 1 + 1) := hne _ (.tail _ (.tail _ (.tail _ (.tail _ (.head _)))))
    have q2 : @Ne Nat Dt (L + 1 + 1 + 1 + 1 + 1 + 1) := hDt _ (.tail _ (.tail _ (.tail _ (.head _))))
    have q3 : @Ne Nat Dn (L + 1 + 1 + 1 + 1 + 1 + 1) := hDn _ (.tail _ (.tail _ (.head _)))
    clear F N
    repeat' (first | ((with_reducible show wpAny _ _ (subscriptTail _ _ _ _) _ _ _); ((with_reducible show wpAny _ _ (subscriptTail _ _ (Value.ref _) (Value.str _ _)) _ _ _); k_dflt (refine dictItem (by assumption) (by assumption) ?_))) | ((with_reducible show wpAny _ _ (eval (PySem.Expr.Name _ _) _) _ _ _); (k_dflt (first | refine nameL0 (by assumption) (by assumption) ?_ | refine nameG0 (by assumption) (by assumption) (by k_is) ?_))) | ((with_reducible show wpAny _ _ (execs (Stmt.Assign _ (Expr.ListComp _ _ _ _) _ :: _) _) _ _ _); refine stop_of ?_) | ((with_reducible show wpAny _ _ (eval (PySem.Expr.DictComp _ _ _ _ _) _) _ _ _); (refine stop_of ?_)) | walk1 | (dsimp only; walk1) | fail "no step")
    refine ⟨?_⟩
    rename Fr _ _ _ _ => F3
    rename News _ _ _ _ => N3
    rename_i o6' d6'
    refine hnext _ _ o6' D oD kvs F3 N3 ?_ d6' hDict hvals
    simp only [cells8, List.forall_mem_cons, List.not_mem_nil, false_implies, implies_true, and_true] at hne ⊢
    exact hne
end Mine
end PartSN

section PartSC1
open PySem PySem.W PyProof.Rows PySem.Calls
namespace Mine
theorem offSC1 : True := by w_top off; trivial
variable {prog : Program} {w : World} {dp un : Nat} {gd : Option (List Code)} {fr : Option (List Env)} {s : Shared} {p : Program} {loose : List Str} {mean : ExcName → Option Value} {mg mb : Str → Option Value} {g : Heap} {Q : Flow → Shared → Prop} {E : Value → Shared → Prop}
section
variable {A : Around} {Q : Value → Shared → Prop}
theorem meets_get_hit {k : Int} {key : Value} (d : Addr) (hkey : (intKind prog w).is k key = true) (dflt : Value) :
    MeetsIn prog w (Builtin.«dict.get» ⟨[.ref d, key, dflt], []⟩) (fun _ R s => ∃ f v, s.heap.MapOf (intKind prog w) d f ∧ f k = some v ∧ R (.ok (.ret v)) { s with toks := s.toks + 1 }) :=
  .of_wp fun A R s ⟨f, v, hm, hf, h⟩ => by
    show wpAny _ _ (dictGet d key >>= _) _ _ s
    refine wpAny_bind (wpAny_dictGet_of hkey hm ?_)
    rw [hf]
    exact wpAny_pure ⟨v, rfl, h⟩
theorem getHit {d : Addr} {k : Int} {t : Tok} {dflt v : Value} {kvs : List (Int × Value)} (hd : s.heap.DictOf (intKind prog w) d kvs) (hv : valueAt kvs k = some v) (h : Q v { s with toks := s.toks + 1 }) :
    wpAny (model prog w) A (call (.builtin "dict.get") [.ref d, .int k t, dflt]) Q E s :=
  call_meetsIn PySem.F.slot_dict_get hd.typeIs PySem.F.entry_dict_get (PySem.F.args_dict_get_3 _ _ _) (meets_get_hit d (intKind_is prog w k t) dflt) ⟨_, _, hd.mapOf, hv, h⟩
theorem getMeth {M : Model} {d : Addr} {kvs : List (Int × Value)} {pl : Sem Bool} {Q : Value × List Value → Shared → Prop} (hd : s.heap.DictOf (intKind prog w) d kvs) (h : Q (.builtin "dict.get", [.ref d]) s) :
    wpAny M A (getMethod (.ref d) "get" pl) Q E s := getMethod_builtin hd.typeIs PySem.F.plainAttrs_dict PySem.F.slot_dict_get PySem.F.type_dict_get hd.mapOf.noDict h
end
def cells4 (L : Addr) (o3 o4 o7 o8 t1 t2 : Obj) : List (Addr × Obj) := [(L + 1 + 1 + 1 + 1 + 1 + 1 + 1 + 1, o8), (L + 1 + 1 + 1 + 1 + 1 + 1 + 1, o7), (L + 1 + 1 + 1 + 1, o4), (L + 1 + 1 + 1, o3), (37, t1), (30, t2)]
theorem News.sub {g h : Heap} {L : Addr} {l l' : List (Addr × Obj)} (N : News g L h l) (hs : ∀ p ∈ l', p ∈ l) : News g L h l' := fun p hp => N p (hs p hp)
theorem toldF_len : ∀ i ∈ ([0, 1, 2, 3] : List Int), (toldF i).length = 6 := by decide
set_option maxRecDepth 100000 in
set_option maxHeartbeats 8000000 in
set_option pp.deepTerms false in
set_option pp.deepTerms.threshold 8 in
theorem segC1 {L fa Dd Dt Dn : Addr} {oDd : Obj} {vt ys : List Value} {e : Nat} {cd : Value} {m : Str → Option Value} {i : Int} {kvs : List (Int × Value)} {n0 n1 n2 n3 n4 n5 n6 n7 : Int} {o1 o2 o3 o4 o5 o6 o7 o8 t1 t2 : Obj} (K : Base w p loose mean mg mb g) (F : Fr g L s.heap m) (N : News g L s.heap ((Dd, oDd) :: (Dt, lst vt e) :: (Dn, lst ys ys.length) :: cells8 L o1 o2 o3 o4 o5 o6 o7 o8 t1 t2)) (hun : un + 200 < cLine)
    (hi : i ∈ ([0, 1, 2, 3] : List Int)) (d5 : o5.data = .cell (some (.ref Dt))) (d6 : o6.data = .cell (some (.ref Dd))) (d7 : o7.data = .cell none) (d8 : o8.data = .cell none) (l0 : (37 : Nat) < L ∧ (30 : Nat) < L)
    (hDd : ∀ q ∈ (Dt, lst vt e) :: (Dn, lst ys ys.length) :: cells8 L o1 o2 o3 o4 o5 o6 o7 o8 t1 t2, @Ne Nat Dd q.1) (hDt : ∀ q ∈ (Dn, lst ys ys.length) :: cells8 L o1 o2 o3 o4 o5 o6 o7 o8 t1 t2, @Ne Nat Dt q.1) (hDn : ∀ q ∈ cells8 L o1 o2 o3 o4 o5 o6 o7 o8 t1 t2, @Ne Nat Dn q.1)
    (hm : m (Str.ofString "numbers") = some (.ref Dn)) (hI : IntsAre ys [n0, n1, n2, n3, n4, n5, n6, n7]) (hIt : IntsAre vt (toldF i)) (hdict : oDd.IsDictOf (intKind prog w) kvs)
    (hvals : ∀ i ∈ ([0, 1, 2, 3] : List Int), ∀ k ∈ [0, 1, 2, 3, 4, 5], ∃ t, valueAt kvs ((toldF i).getD k 0) = some (.str (opF i k) t))
    (hnext : ∀ h' tk' D1 D2 ys1 ys2 o7' o8', Fr g L h' m → News g L h' ((D2, LCg.lst ys2) :: (D1, LCg.lst ys1) :: (Dn, lst ys ys.length) :: cells4 L o3 o4 o7' o8' t1 t2) →
      o7'.data = .cell (some (.ref D1)) → o8'.data = .cell (some (.ref D2)) → IntsAre ys1 [n4.fmod 6, n5.fmod 6, n6.fmod 6, n7.fmod 6] →
      All2 (fun (k : Int) y => ∃ t, y = Value.str (opF i k.toNat) t) [n4.fmod 6, n5.fmod 6, n6.fmod 6, n7.fmod 6] ys2 →
      wpAny (model prog w) (AA dp un gd fr) (execs ((bodyOf lawS).drop 10) (envOfC (Str.ofString "law") (scopeOf lawS) L fa cd)) Q E { s with heap := h', toks := tk' }) :
    wpAny (model prog w) (AA dp un gd fr) (execs ((bodyOf lawS).drop 8) (envOfC (Str.ofString "law") (scopeOf lawS) L fa cd)) Q E s := by
  dsimp only [lawS, nth, bodyOf, scopeOf, PySem.Challenge.pw_qu0053_01, List.drop]
  have e1 := hDd (L + 1 + 1 + 1 + 1 + 1 + 1 + 1 + 1, o8) (by simp [cells8])
  have e2 := hDd (L + 1 + 1 + 1 + 1 + 1 + 1 + 1, o7) (by simp [cells8])
  have e3 := hDt (L + 1 + 1 + 1 + 1 + 1 + 1 + 1 + 1, o8) (by simp [cells8])
  have e4 := hDt (L + 1 + 1 + 1 + 1 + 1 + 1 + 1, o7) (by simp [cells8])
  have e5 := hDn (L + 1 + 1 + 1 + 1 + 1 + 1 + 1 + 1, o8) (by simp [cells8])
  have e6 := hDn (L + 1 + 1 + 1 + 1 + 1 + 1 + 1, o7) (by simp [cells8])
  simp only at e1 e2 e3 e4 e5 e6
  simp only [cells8] at N
  have X := K.X
  have T := K.T
  repeat' (first | ((with_reducible show wpAny _ _ (getMethod (Value.ref _) _ _) _ _ _); (k_dflt (refine getMeth (by assumption) ?_))) | ((with_reducible show wpAny _ _ (call (Value.builtin "dict.get") _) _ _ _); (k_dflt (refine getHit (by assumption) (by assumption) ?_))) | ((with_reducible show wpAny _ _ (subscriptTail _ _ _ _) _ _ _); ((with_reducible show wpAny _ _ (subscriptTail _ _ (Value.ref _) (Value.int _ _)) _ _ _); k_dflt (refine itemI (by assumption) (by assumption) (by omega) (by omega) (by omega) ?_); intro _)) | ((with_reducible show wpAny _ _ (eval (PySem.Expr.Name _ _) _) _ _ _); (k_dflt (first | refine nameX_L (by assumption) (by assumption) ?_ | refine nameCL (by assumption) (by assumption) ?_ | refine nameCC (by assumption) (by assumption) rfl ?_))) | ((with_reducible show wpAny _ _ (execs (Stmt.Assign [Expr.Name (Str.ofString "patterns") _] _ _ :: _) _) _ _ _); refine stop_of ?_) | ((with_reducible show wpAny _ _ (exec (Stmt.Assign _ (PySem.Expr.ListComp _ _ _ _) _) _) _ _ _); (with_reducible refine wpAny_Assign_one ?_)) | ((with_reducible show wpAny _ _ (eval (PySem.Expr.ListComp _ _ _ _) _) _ _ _); (refine stop_of ?_)) | walk1 | (dsimp only; walk1) | fail "no step")
  refine ⟨?_⟩
  refine comp_E (α := Int) (fun k y _ => ∃ t, y = Value.int (k.fmod 6) t) (fun _ _ _ _ h _ => h) ?_
  repeat' (first | ((with_reducible show wpAny _ _ (getMethod (Value.ref _) _ _) _ _ _); (k_dflt (refine getMeth (by assumption) ?_))) | ((with_reducible show wpAny _ _ (call (Value.builtin "dict.get") _) _ _ _); (k_dflt (refine getHit (by assumption) (by assumption) ?_))) | ((with_reducible show wpAny _ _ (subscriptTail _ _ _ _) _ _ _); ((with_reducible show wpAny _ _ (subscriptTail _ _ (Value.ref _) (Value.int _ _)) _ _ _); k_dflt (refine itemI (by assumption) (by assumption) (by omega) (by omega) (by omega) ?_); intro _)) | ((with_reducible show wpAny _ _ (eval (PySem.Expr.Name _ _) _) _ _ _); (k_dflt (first | refine nameX_L (by assumption) (by assumption) ?_ | refine nameCL (by assumption) (by assumption) ?_ | refine nameCC (by assumption) (by assumption) rfl ?_))) | ((with_reducible show wpAny _ _ (execs (Stmt.Assign [Expr.Name (Str.ofString "patterns") _] _ _ :: _) _) _ _ _); refine stop_of ?_) | ((with_reducible show wpAny _ _ (exec (Stmt.Assign _ (PySem.Expr.ListComp _ _ _ _) _) _) _ _ _); (with_reducible refine wpAny_Assign_one ?_)) | ((with_reducible show wpAny _ _ (eval (PySem.Expr.ListComp _ _ _ _) _) _ _ _); (refine stop_of ?_)) | walk1 | (dsimp only; walk1) | fail "no step")
  rename Fr _ _ _ _ => F2
  rename News _ _ _ _ => N2
  rename IntsAre _ _ => hz0
  have hz : IntsAre _ [n4, n5, n6, n7] := hz0
  clear hz0
  have hzl := hz.length
  simp only [List.length_cons, List.length_nil] at hzl
  refine ⟨⟨[n4, n5, n6, n7], (fun k v => ∃ t, v = Value.int k t), .list (PySem.IsL.isList (N2.get (.head _))) (All2.ofInts hz) (by rw [sizeLine_eq]; omega), ?turn1, ?fin1⟩⟩
  case turn1 =>
    intro k v C m2 nw H tk E2 hk hR hx F3 N3
    obtain ⟨t, rfl⟩ := hR
    clear F2 N2
    repeat' (first | ((with_reducible show wpAny _ _ (getMethod (Value.ref _) _ _) _ _ _); (k_dflt (refine getMeth (by assumption) ?_))) | ((with_reducible show wpAny _ _ (call (Value.builtin "dict.get") _) _ _ _); (k_dflt (refine getHit (by assumption) (by assumption) ?_))) | ((with_reducible show wpAny _ _ (subscriptTail _ _ _ _) _ _ _); ((with_reducible show wpAny _ _ (subscriptTail _ _ (Value.ref _) (Value.int _ _)) _ _ _); k_dflt (refine itemI (by assumption) (by assumption) (by omega) (by omega) (by omega) ?_); intro _)) | ((with_reducible show wpAny _ _ (eval (PySem.Expr.Name _ _) _) _ _ _); (k_dflt (first | refine nameX_L (by assumption) (by assumption) ?_ | refine nameCL (by assumption) (by assumption) ?_ | refine nameCC (by assumption) (by assumption) rfl ?_))) | ((with_reducible show wpAny _ _ (execs (Stmt.Assign [Expr.Name (Str.ofString "patterns") _] _ _ :: _) _) _ _ _); refine stop_of ?_) | ((with_reducible show wpAny _ _ (exec (Stmt.Assign _ (PySem.Expr.ListComp _ _ _ _) _) _) _ _ _); (with_reducible refine wpAny_Assign_one ?_)) | ((with_reducible show wpAny _ _ (eval (PySem.Expr.ListComp _ _ _ _) _) _ _ _); (refine stop_of ?_)) | walk1 | (dsimp only; walk1) | fail "no step")
    exact ⟨⟨_, _, [], rfl, F3, N3, fun _ h => (nomatch h), _, rfl⟩⟩
  case fin1 =>
    intro D1 h1 tk1 ys1 nw1 hx1 hM1 hD1 hall1
    have hI1 : IntsAre ys1 [n4.fmod 6, n5.fmod 6, n6.fmod 6, n7.fmod 6] := All2.ints (All2.map1 (f := fun k : Int => k.fmod 6) (as := [n4, n5, n6, n7]) (R := fun k v => ∃ t, v = Value.int k t) hall1)
    have F3 := Ext.fr hx1 F2
    have hf1 := (hM1 _ (.head _)).2
    have hne := ne_all N2 hf1
    have e7 := hne (L + 1 + 1 + 1 + 1 + 1 + 1 + 1 + 1, o8) (by k_mem)
    have e8 := hne (L + 1 + 1 + 1 + 1 + 1 + 1 + 1, o7) (by k_mem)
    simp only at e7 e8
    have N3 := Mine.News.one (hM1 _ (.head _)).1 (Mine.Fr.fresh F2 hf1) (Ext.news hx1 N2)
    clear F2 N2
    repeat' (first | ((with_reducible show wpAny _ _ (getMethod (Value.ref _) _ _) _ _ _); (k_dflt (refine getMeth (by assumption) ?_))) | ((with_reducible show wpAny _ _ (call (Value.builtin "dict.get") _) _ _ _); (k_dflt (refine getHit (by assumption) (by assumption) ?_))) | ((with_reducible show wpAny _ _ (subscriptTail _ _ _ _) _ _ _); ((with_reducible show wpAny _ _ (subscriptTail _ _ (Value.ref _) (Value.int _ _)) _ _ _); k_dflt (refine itemI (by assumption) (by assumption) (by omega) (by omega) (by omega) ?_); intro _)) | ((with_reducible show wpAny _ _ (eval (PySem.Expr.Name _ _) _) _ _ _); (k_dflt (first | refine nameX_L (by assumption) (by assumption) ?_ | refine nameCL (by assumption) (by assumption) ?_ | refine nameCC (by assumption) (by assumption) rfl ?_))) | ((with_reducible show wpAny _ _ (execs (Stmt.Assign [Expr.Name (Str.ofString "patterns") _] _ _ :: _) _) _ _ _); refine stop_of ?_) | ((with_reducible show wpAny _ _ (exec (Stmt.Assign _ (PySem.Expr.ListComp _ _ _ _) _) _) _ _ _); (with_reducible refine wpAny_Assign_one ?_)) | ((with_reducible show wpAny _ _ (eval (PySem.Expr.ListComp _ _ _ _) _) _ _ _); (refine stop_of ?_)) | walk1 | (dsimp only; walk1) | fail "no step")
    refine ⟨?_⟩
    refine comp_E (α := Int) (fun k y _ => ∃ t, y = Value.str (opF i k.toNat) t) (fun _ _ _ _ h _ => h) ?_
    repeat' (first | ((with_reducible show wpAny _ _ (getMethod (Value.ref _) _ _) _ _ _); (k_dflt (refine getMeth (by assumption) ?_))) | ((with_reducible show wpAny _ _ (call (Value.builtin "dict.get") _) _ _ _); (k_dflt (refine getHit (by assumption) (by assumption) ?_))) | ((with_reducible show wpAny _ _ (subscriptTail _ _ _ _) _ _ _); ((with_reducible show wpAny _ _ (subscriptTail _ _ (Value.ref _) (Value.int _ _)) _ _ _); k_dflt (refine itemI (by assumption) (by assumption) (by omega) (by omega) (by omega) ?_); intro _)) | ((with_reducible show wpAny _ _ (eval (PySem.Expr.Name _ _) _) _ _ _); (k_dflt (first | refine nameX_L (by assumption) (by assumption) ?_ | refine nameCL (by assumption) (by assumption) ?_ | refine nameCC (by assumption) (by assumption) rfl ?_))) | ((with_reducible show wpAny _ _ (execs (Stmt.Assign [Expr.Name (Str.ofString "patterns") _] _ _ :: _) _) _ _ _); refine stop_of ?_) | ((with_reducible show wpAny _ _ (exec (Stmt.Assign _ (PySem.Expr.ListComp _ _ _ _) _) _) _ _ _); (with_reducible refine wpAny_Assign_one ?_)) | ((with_reducible show wpAny _ _ (eval (PySem.Expr.ListComp _ _ _ _) _) _ _ _); (refine stop_of ?_)) | walk1 | (dsimp only; walk1) | fail "no step")
    rename Fr _ _ _ _ => F4
    rename News _ _ _ _ => N4
    refine ⟨⟨[n4.fmod 6, n5.fmod 6, n6.fmod 6, n7.fmod 6], (fun k v => ∃ t, v = Value.int k t), .list (PySem.IsL.isList (N4.get (.head _))) (All2.ofInts hI1) (by rw [sizeLine_eq]; have hl := All2.length (All2.ofInts hI1); simp at hl; omega), ?turn2, ?fin2⟩⟩
    case turn2 =>
      intro k v C m2 nw H tk E2 hk hR hx F5 N5
      obtain ⟨t, rfl⟩ := hR
      have hc5 := (⟨o5, N4.get (by k_mem), d5⟩ : Heap.IsCell _ (L + 1 + 1 + 1 + 1 + 1) (some (Value.ref Dt)))
      have hc6 := (⟨o6, N4.get (by k_mem), d6⟩ : Heap.IsCell _ (L + 1 + 1 + 1 + 1 + 1 + 1) (some (Value.ref Dd)))
      have hlt : H.IsList Dt vt.toArray := (PySem.IsL.isList (N4.get (a := Dt) (by k_mem))).at fun o e => F5.keep _ _ e
      have hdt : H.DictOf (intKind prog w) Dd kvs := Heap.dictOf_iff.mpr ⟨oDd, F5.keep _ _ (N4.get (by k_mem)), hdict⟩
      clear F4 N4
      have hlen := toldF_len i hi
      have hk6 : 0 ≤ k ∧ k < 6 := by
        simp only [List.mem_cons, List.not_mem_nil, or_false] at hk
        rcases hk with rfl | rfl | rfl | rfl <;> exact ⟨Int.fmod_nonneg_of_pos _ (by decide), Int.fmod_lt_of_pos _ (by decide)⟩
      have hk5 : ∃ n : Nat, n ∈ [0, 1, 2, 3, 4, 5] ∧ k = (n : Int) := six hk6
      clear hk hk6
      obtain ⟨n, hn, rfl⟩ := hk5
      obtain ⟨ts, hts⟩ := hvals i hi n hn
      have hn6 : n < 6 := by simp only [List.mem_cons, List.not_mem_nil, or_false] at hn; omega
      clear hn
      clear hvals hDd hDt hDn hall1 hz hzl
      iterate 16 (first | ((with_reducible show wpAny _ _ (getMethod (Value.ref _) _ _) _ _ _); (k_dflt (refine getMeth (by assumption) ?_))) | ((with_reducible show wpAny _ _ (call (Value.builtin "dict.get") _) _ _ _); (k_dflt (refine getHit (by assumption) (by assumption) ?_))) | ((with_reducible show wpAny _ _ (subscriptTail _ _ _ _) _ _ _); ((with_reducible show wpAny _ _ (subscriptTail _ _ (Value.ref _) (Value.int _ _)) _ _ _); k_dflt (refine itemI (by assumption) (by assumption) (by omega) (by omega) (by omega) ?_); intro _)) | ((with_reducible show wpAny _ _ (eval (PySem.Expr.Name _ _) _) _ _ _); (k_dflt (first | refine nameX_L (by assumption) (by assumption) ?_ | refine nameCL (by assumption) (by assumption) ?_ | refine nameCC (by assumption) (by assumption) rfl ?_))) | ((with_reducible show wpAny _ _ (execs (Stmt.Assign [Expr.Name (Str.ofString "patterns") _] _ _ :: _) _) _ _ _); refine stop_of ?_) | ((with_reducible show wpAny _ _ (exec (Stmt.Assign _ (PySem.Expr.ListComp _ _ _ _) _) _) _ _ _); (with_reducible refine wpAny_Assign_one ?_)) | ((with_reducible show wpAny _ _ (eval (PySem.Expr.ListComp _ _ _ _) _) _ _ _); (refine stop_of ?_)) | walk1 | (dsimp only; walk1) | skip)
      exact ⟨⟨_, _, [], rfl, F5, N5, fun _ h => (nomatch h), _, rfl⟩⟩
    case fin2 =>
      intro D2 h2 tk2 ys2 nw2 hx2 hM2 hD2 hall2
      clear hvals
      have F5 := Ext.fr hx2 F4
      have hf2 := (hM2 _ (.head _)).2
      have hne2 := ne_all N4 hf2
      have e9 := hne2 (L + 1 + 1 + 1 + 1 + 1 + 1 + 1 + 1, o8) (by k_mem)
      simp only at e9
      have N5 := Mine.News.one (hM2 _ (.head _)).1 (Mine.Fr.fresh F4 hf2) (Ext.news hx2 N4)
      clear F4 N4 hall1 hz hzl
      repeat' (first | ((with_reducible show wpAny _ _ (getMethod (Value.ref _) _ _) _ _ _); (k_dflt (refine getMeth (by assumption) ?_))) | ((with_reducible show wpAny _ _ (call (Value.builtin "dict.get") _) _ _ _); (k_dflt (refine getHit (by assumption) (by assumption) ?_))) | ((with_reducible show wpAny _ _ (subscriptTail _ _ _ _) _ _ _); ((with_reducible show wpAny _ _ (subscriptTail _ _ (Value.ref _) (Value.int _ _)) _ _ _); k_dflt (refine itemI (by assumption) (by assumption) (by omega) (by omega) (by omega) ?_); intro _)) | ((with_reducible show wpAny _ _ (eval (PySem.Expr.Name _ _) _) _ _ _); (k_dflt (first | refine nameX_L (by assumption) (by assumption) ?_ | refine nameCL (by assumption) (by assumption) ?_ | refine nameCC (by assumption) (by assumption) rfl ?_))) | ((with_reducible show wpAny _ _ (execs (Stmt.Assign [Expr.Name (Str.ofString "patterns") _] _ _ :: _) _) _ _ _); refine stop_of ?_) | ((with_reducible show wpAny _ _ (exec (Stmt.Assign _ (PySem.Expr.ListComp _ _ _ _) _) _) _ _ _); (with_reducible refine wpAny_Assign_one ?_)) | ((with_reducible show wpAny _ _ (eval (PySem.Expr.ListComp _ _ _ _) _) _ _ _); (refine stop_of ?_)) | walk1 | (dsimp only; walk1) | fail "no step")
      refine ⟨?_⟩
      rename Fr _ _ _ _ => F6
      rename News _ _ _ _ => N6
      rename_i o8' d8'
      refine hnext _ _ D1 D2 ys1 ys2 _ o8' F6 (Mine.News.sub N6 ?_) (by assumption) d8' hI1 hall2
      intro p hp
      simp only [cells4, List.mem_cons, List.not_mem_nil, or_false] at hp ⊢
      rcases hp with h | h | h | h | h | h | h | h | h <;> subst h <;> simp
end Mine
end PartSC1

section PartSC2
open PySem PySem.W PyProof.Rows PySem.Calls
namespace Mine
theorem offSC2 : True := by w_top off; trivial
local macro_rules | `(tactic| walk_at "pad SC2") => `(tactic| skip)
variable {prog : Program} {w : World} {dp un : Nat} {gd : Option (List Code)} {fr : Option (List Env)} {s : Shared} {p : Program} {loose : List Str} {mean : ExcName → Option Value} {mg mb : Str → Option Value} {g : Heap} {Q : Flow → Shared → Prop} {E : Value → Shared → Prop}
theorem fm4 (n : Int) : ∃ j : Nat, j ∈ [0, 1, 2, 3] ∧ n.fmod 4 = (j : Int) := by
  have h : n.fmod 4 = 0 ∨ n.fmod 4 = 1 ∨ n.fmod 4 = 2 ∨ n.fmod 4 = 3 := by rw [Int.fmod_eq_emod_of_nonneg _ (by decide)]; omega
  rcases h with h | h | h | h
  · exact ⟨0, by decide, h⟩
  · exact ⟨1, by decide, h⟩
  · exact ⟨2, by decide, h⟩
  · exact ⟨3, by decide, h⟩
theorem patF_at : ∀ i ∈ ([0, 1, 2, 3] : List Int), ∀ c ∈ ([0, 1, 2, 3] : List Int), ∀ j ∈ [0, 1, 2, 3], (patF c (sgF i))[j]? = some (patAt c i j) := by decide +kernel
theorem finA_of {g h h2 : Heap} {L : Addr} {m m' : Str → Option Value} {l news : List (Addr × Obj)} (F : Fr g L h m) (N : News g L h news) (hN : h2.Ns L m') (hkeep : ∀ b o, b ≠ L → h.get? b = some o → h2.get? b = some o) (hM : Made h h2 l) :
    Fr g L h2 m' ∧ News g L h2 (l ++ news) := by
  have hgL : g.get? L = none := Heap.get?_none_of_le F.above
  refine ⟨⟨hN, fun b o e => hkeep b o (fun q => by rw [q, hgL] at e; cases e) (F.keep b o e), F.above⟩, fun p hp => ?_⟩
  rcases List.mem_append.mp hp with hp | hp
  · exact ⟨(hM p hp).1, Mine.Fr.fresh F (hM p hp).2⟩
  · exact ⟨hkeep _ _ (N p hp).2.1 (N p hp).1, (N p hp).2⟩
theorem sgF_len : ∀ i ∈ ([0, 1, 2, 3] : List Int), (sgF i).length = 1 := by decide +kernel
theorem All2.pick {α : Type} {R : α → Value → Prop} : ∀ {ds : List α} {vs : List Value} (h : All2 R ds vs) {j : Nat} {d : α}, ds[j]? = some d → ∃ v, vs[j]? = some v ∧ R d v
  | _, _, .nil, _, _, e => by simp at e
  | _, _, .cons x _, 0, _, e => by simp at e; subst e; exact ⟨_, rfl, x⟩
  | _, _, .cons _ r, j + 1, _, e => by simpa using All2.pick r (by simpa using e)
set_option maxRecDepth 100000 in
set_option maxHeartbeats 8000000 in
set_option pp.deepTerms false in
set_option pp.deepTerms.threshold 8 in
theorem segC2 {L fa D2 D1 Dn : Addr} {ys ys1 ys2 : List Value} {cd : Value} {m : Str → Option Value} {i c B : Int} {ts tc tB : Tok} {n0 n1 n2 n3 n4 n5 n6 n7 : Int} {o3 o4 o7 o8 t1 t2 : Obj} (K : Base w p loose mean mg mb g) (F : Fr g L s.heap m)
    (N : News g L s.heap ((D2, LCg.lst ys2) :: (D1, LCg.lst ys1) :: (Dn, lst ys ys.length) :: cells4 L o3 o4 o7 o8 t1 t2)) (hdp : dp + 200 < recursionLimit) (hun : un + 200 < cLine)
    (hi : i ∈ ([0, 1, 2, 3] : List Int)) (hc : c ∈ ([0, 1, 2, 3] : List Int)) (d3 : o3.data = .cell (some (.str (sgF i) ts))) (d4 : o4.data = .cell (some (.int c tc)))
    (hm : m (Str.ofString "numbers") = some (.ref Dn)) (hmB : m (Str.ofString "base") = some (.int B tB)) (hI : IntsAre ys [n0, n1, n2, n3, n4, n5, n6, n7])
    (hnext : ∀ h' tk' D3 ys3 m', Fr g L h' m' → News g L h' ((D3, LCg.lst ys3) :: (D2, LCg.lst ys2) :: (D1, LCg.lst ys1) :: (Dn, lst ys ys.length) :: cells4 L o3 o4 o7 o8 t1 t2) →
      m' (Str.ofString "patterns") = some (.ref D3) → m' (Str.ofString "numbers") = some (.ref Dn) → m' (Str.ofString "base") = some (.int B tB) → All2 (fun (n : Int) y => ∃ t, y = Value.str (patAt c i (n.fmod 4).toNat) t) [n0, n1, n2, n3] ys3 →
      wpAny (model prog w) (AA dp un gd fr) (execs ((bodyOf lawS).drop 11) (envOfC (Str.ofString "law") (scopeOf lawS) L fa cd)) Q E { s with heap := h', toks := tk' }) :
    wpAny (model prog w) (AA dp un gd fr) (execs ((bodyOf lawS).drop 10) (envOfC (Str.ofString "law") (scopeOf lawS) L fa cd)) Q E s := by
  dsimp only [lawS, nth, bodyOf, scopeOf, PySem.Challenge.pw_qu0053_01, List.drop]
  simp only [cells4] at N
  have X := K.X
  have T := K.T
  repeat' (first | ((with_reducible show wpAny _ _ (execs (Stmt.Assign [Expr.Name (Str.ofString "board") _] _ _ :: _) _) _ _ _); refine stop_of ?_) | ((with_reducible show wpAny _ _ (subscriptTail _ _ _ _) _ _ _); ((with_reducible show wpAny _ _ (subscriptTail _ _ (Value.ref _) (Value.int _ _)) _ _ _); k_dflt (refine itemB (by assumption) (by omega) (by omega) (by assumption) ?_))) | ((with_reducible show wpAny _ _ (eval (PySem.Expr.Name _ _) _) _ _ _); (k_dflt (first | refine nameX_L (by assumption) (by assumption) ?_ | refine nameCL (by assumption) (by assumption) ?_ | refine nameCC (by assumption) (by assumption) rfl ?_))) | ((with_reducible show wpAny _ _ (exec (Stmt.Assign _ (PySem.Expr.ListComp _ _ _ _) _) _) _ _ _); (refine stop_of ?_)) | ((with_reducible show wpAny _ _ (eval (PySem.Expr.ListComp _ _ _ _) _) _ _ _); (refine stop_of ?_)) | ((with_reducible show wpAny _ _ (call (Value.ref _) _) _ _ _); (refine stop_of ?_)) | walk1 | (dsimp only; walk1) | fail "no step")
  refine ⟨?_⟩
  refine comp_A (α := Int) (fun n y _ => ∃ t, y = Value.str (patAt c i (n.fmod 4).toNat) t) (fun _ _ _ _ h _ => h) ?_
  repeat' (first | ((with_reducible show wpAny _ _ (execs (Stmt.Assign [Expr.Name (Str.ofString "board") _] _ _ :: _) _) _ _ _); refine stop_of ?_) | ((with_reducible show wpAny _ _ (subscriptTail _ _ _ _) _ _ _); ((with_reducible show wpAny _ _ (subscriptTail _ _ (Value.ref _) (Value.int _ _)) _ _ _); k_dflt (refine itemB (by assumption) (by omega) (by omega) (by assumption) ?_))) | ((with_reducible show wpAny _ _ (eval (PySem.Expr.Name _ _) _) _ _ _); (k_dflt (first | refine nameX_L (by assumption) (by assumption) ?_ | refine nameCL (by assumption) (by assumption) ?_ | refine nameCC (by assumption) (by assumption) rfl ?_))) | ((with_reducible show wpAny _ _ (exec (Stmt.Assign _ (PySem.Expr.ListComp _ _ _ _) _) _) _ _ _); (refine stop_of ?_)) | ((with_reducible show wpAny _ _ (eval (PySem.Expr.ListComp _ _ _ _) _) _ _ _); (refine stop_of ?_)) | ((with_reducible show wpAny _ _ (call (Value.ref _) _) _ _ _); (refine stop_of ?_)) | walk1 | (dsimp only; walk1) | fail "no step")
  rename Fr _ _ _ _ => F2
  rename News _ _ _ _ => N2
  rename IntsAre _ _ => hz0
  have hz : IntsAre _ [n0, n1, n2, n3] := hz0
  clear hz0
  have hzl := hz.length
  simp only [List.length_cons, List.length_nil] at hzl
  refine ⟨⟨[n0, n1, n2, n3], (fun k v => ∃ t, v = Value.int k t), _, .list (PySem.IsL.isList (N2.get (.head _))) (All2.ofInts hz) (by rw [sizeLine_eq]; omega), ?turn1, F2.ns, ?fin1⟩⟩
  case turn1 =>
    intro k v C m2 nw H tk E2 hk hR hx F3 N3
    obtain ⟨t, rfl⟩ := hR
    have hc3 := (⟨o3, N2.get (by k_mem), d3⟩ : Heap.IsCell _ (L + 1 + 1 + 1) (some (Value.str (sgF i) ts)))
    have hc4 := (⟨o4, N2.get (by k_mem), d4⟩ : Heap.IsCell _ (L + 1 + 1 + 1 + 1) (some (Value.int c tc)))
    have XH := K.X.keeps F2.keep
    have TH := K.T.keeps F2.keep
    clear F2 N2 hz hzl hnext
    repeat' (first | ((with_reducible show wpAny _ _ (execs (Stmt.Assign [Expr.Name (Str.ofString "board") _] _ _ :: _) _) _ _ _); refine stop_of ?_) | ((with_reducible show wpAny _ _ (subscriptTail _ _ _ _) _ _ _); ((with_reducible show wpAny _ _ (subscriptTail _ _ (Value.ref _) (Value.int _ _)) _ _ _); k_dflt (refine itemB (by assumption) (by omega) (by omega) (by assumption) ?_))) | ((with_reducible show wpAny _ _ (eval (PySem.Expr.Name _ _) _) _ _ _); (k_dflt (first | refine nameX_L (by assumption) (by assumption) ?_ | refine nameCL (by assumption) (by assumption) ?_ | refine nameCC (by assumption) (by assumption) rfl ?_))) | ((with_reducible show wpAny _ _ (exec (Stmt.Assign _ (PySem.Expr.ListComp _ _ _ _) _) _) _ _ _); (refine stop_of ?_)) | ((with_reducible show wpAny _ _ (eval (PySem.Expr.ListComp _ _ _ _) _) _ _ _); (refine stop_of ?_)) | ((with_reducible show wpAny _ _ (call (Value.ref _) _) _ _ _); (refine stop_of ?_)) | walk1 | (dsimp only; walk1) | fail "no step")
    refine ⟨?_⟩
    have hc01 : 0 ≤ c ∧ c < 4 := by simp only [List.mem_cons, List.not_mem_nil, or_false] at hc; omega
    refine patterns_spec (XH.keeps F3.keep) (TH.keeps F3.keep) (by omega) (by omega) hc01 (sgF_len i hi) ?_
    intro h4 tk4 r vs e hx4 hr hg hall
    have F4 := Ext.fr hx4 F3
    have N4 := Ext.news hx4 N3
    have hl : h4.IsList r vs.toArray := PySem.IsL.isList hg
    obtain ⟨j, hj, hkj⟩ := fm4 k
    have hk0 : 0 ≤ k.fmod 4 ∧ k.fmod 4 < 4 := by simp only [List.mem_cons, List.not_mem_nil, or_false] at hj; omega
    have hjj : (k.fmod 4).toNat = j := by omega
    obtain ⟨v, hv, t5, hvt⟩ := All2.pick hall (patF_at i hi c hc j hj)
    rw [← hjj] at hv hvt
    clear F3 N3 hj hkj hjj hall
    repeat' (first | ((with_reducible show wpAny _ _ (execs (Stmt.Assign [Expr.Name (Str.ofString "board") _] _ _ :: _) _) _ _ _); refine stop_of ?_) | ((with_reducible show wpAny _ _ (subscriptTail _ _ _ _) _ _ _); ((with_reducible show wpAny _ _ (subscriptTail _ _ (Value.ref _) (Value.int _ _)) _ _ _); k_dflt (refine itemB (by assumption) (by omega) (by omega) (by assumption) ?_))) | ((with_reducible show wpAny _ _ (eval (PySem.Expr.Name _ _) _) _ _ _); (k_dflt (first | refine nameX_L (by assumption) (by assumption) ?_ | refine nameCL (by assumption) (by assumption) ?_ | refine nameCC (by assumption) (by assumption) rfl ?_))) | ((with_reducible show wpAny _ _ (exec (Stmt.Assign _ (PySem.Expr.ListComp _ _ _ _) _) _) _ _ _); (refine stop_of ?_)) | ((with_reducible show wpAny _ _ (eval (PySem.Expr.ListComp _ _ _ _) _) _ _ _); (refine stop_of ?_)) | ((with_reducible show wpAny _ _ (call (Value.ref _) _) _ _ _); (refine stop_of ?_)) | walk1 | (dsimp only; walk1) | fail "no step")
    exact ⟨⟨_, _, [], rfl, F4, N4, fun _ h => (nomatch h), _, hvt⟩⟩
  case fin1 =>
    intro D3 h1 tk1 ys3 nw1 hN hkeep hM1 hD1 hall1
    obtain ⟨F3, N3⟩ := finA_of F2 N2 hN hkeep hM1
    refine hnext _ _ D3 ys3 _ F3 (cb_drop N3 ?_) rfl hm hmB hall1
    intro p hp
    simp only [cells4, List.mem_cons, List.not_mem_nil, or_false] at hp
    simp only [List.mem_append, List.mem_cons, List.not_mem_nil, or_false]
    rcases hp with h | h | h | h | h | h | h | h | h | h <;> subst h <;> simp
end Mine
end PartSC2

section PartSC3
open PySem PySem.W PyProof.Rows PySem.Calls
namespace Mine
theorem offSC3 : True := by w_top off; trivial
variable {prog : Program} {w : World} {dp un : Nat} {gd : Option (List Code)} {fr : Option (List Env)} {s : Shared} {p : Program} {loose : List Str} {mean : ExcName → Option Value} {mg mb : Str → Option Value} {g : Heap} {Q : Flow → Shared → Prop} {E : Value → Shared → Prop}
theorem tkF_at : ∀ c ∈ ([0, 1, 2, 3] : List Int), ∀ j ∈ [0, 1, 2, 3], (tkF c)[j]? = some ((tkF c).getD j []) := by decide +kernel
theorem All2.map_eq {α : Type} {f : α → Value} : ∀ {ds : List α} {vs : List Value}, All2 (fun d y => y = f d) ds vs → vs = ds.map f
  | _, _, .nil => rfl
  | _, _, .cons x r => by rw [List.map_cons, ← x, ← All2.map_eq r]
def rowOf (c : Int) (ks : List Int) (n : Int) : List Bool := ks.map fun k => tkAt c (n.fmod 4).toNat k
set_option maxRecDepth 100000 in
set_option maxHeartbeats 8000000 in
set_option pp.deepTerms false in
set_option pp.deepTerms.threshold 8 in
theorem segC3 {L fa D3 D2 D1 Dn : Addr} {ys ys1 ys2 ys3 : List Value} {cd : Value} {m : Str → Option Value} {c B : Int} {tc tB : Tok} {n0 n1 n2 n3 n4 n5 n6 n7 : Int} {o3 o4 o7 o8 t1 t2 : Obj} {ks : List Int} (K : Base w p loose mean mg mb g) (F : Fr g L s.heap m)
    (N : News g L s.heap ((D3, LCg.lst ys3) :: (D2, LCg.lst ys2) :: (D1, LCg.lst ys1) :: (Dn, lst ys ys.length) :: cells4 L o3 o4 o7 o8 t1 t2)) (hdp : dp + 200 < recursionLimit) (hun : un + 200 < cLine)
    (hc : c ∈ ([0, 1, 2, 3] : List Int)) (d4 : o4.data = .cell (some (.int c tc))) (d7 : o7.data = .cell (some (.ref D1))) (hks : IntsAre ys1 ks) (hkl : ks.length = 4)
    (hmP : m (Str.ofString "patterns") = some (.ref D3)) (hm : m (Str.ofString "numbers") = some (.ref Dn)) (hmB : m (Str.ofString "base") = some (.int B tB)) (hI : IntsAre ys [n0, n1, n2, n3, n4, n5, n6, n7])
    (hnext : ∀ h' tk' D4 ys4 m', Fr g L h' m' → News g L h' ((D4, LCg.lst ys4) :: (D3, LCg.lst ys3) :: (D2, LCg.lst ys2) :: cells4 L o3 o4 o7 o8 t1 t2) →
      m' (Str.ofString "board") = some (.ref D4) → m' (Str.ofString "patterns") = some (.ref D3) → m' (Str.ofString "base") = some (.int B tB) →
      All2 (fun (n : Int) y => ∃ a, y = Value.ref a ∧ h'.get? a = some (LCg.lst ((rowOf c ks n).map Value.bool)) ∧ g.get? a = none ∧ a ≠ L) [n0, n1, n2, n3] ys4 →
      wpAny (model prog w) (AA dp un gd fr) (execs ((bodyOf lawS).drop 12) (envOfC (Str.ofString "law") (scopeOf lawS) L fa cd)) Q E { s with heap := h', toks := tk' }) :
    wpAny (model prog w) (AA dp un gd fr) (execs ((bodyOf lawS).drop 11) (envOfC (Str.ofString "law") (scopeOf lawS) L fa cd)) Q E s := by
  dsimp only [lawS, nth, bodyOf, scopeOf, PySem.Challenge.pw_qu0053_01, List.drop]
  simp only [cells4] at N
  have X := K.X
  have T := K.T
  repeat' (first | ((with_reducible show wpAny _ _ (compareOp CmpOp.In (Value.int _ _) (Value.ref _)) _ _ _); (k_dflt (refine in_list_ints (by assumption) (by assumption) ?_))) | ((with_reducible show wpAny _ _ (subscriptTail _ _ _ _) _ _ _); ((with_reducible show wpAny _ _ (subscriptTail _ _ (Value.ref _) (Value.int _ _)) _ _ _); k_dflt (refine itemB (by assumption) (by omega) (by omega) (by assumption) ?_))) | ((with_reducible show wpAny _ _ (eval (PySem.Expr.Name _ _) _) _ _ _); (k_dflt (first | refine nameX_L (by assumption) (by assumption) ?_ | refine nameCL (by assumption) (by assumption) ?_ | refine nameCC (by assumption) (by assumption) rfl ?_))) | ((with_reducible show wpAny _ _ (exec (Stmt.Assign _ (PySem.Expr.ListComp _ _ _ _) _) _) _ _ _); (refine stop_of ?_)) | ((with_reducible show wpAny _ _ (eval (PySem.Expr.ListComp _ _ _ _) _) _ _ _); (refine stop_of ?_)) | ((with_reducible show wpAny _ _ (call (Value.ref _) _) _ _ _); (refine stop_of ?_)) | walk1 | (dsimp only; walk1) | fail "no step")
  refine ⟨?_⟩
  refine comp_Ac (α := Int) (fun n y nw => ∃ a, y = Value.ref a ∧ (a, LCg.lst ((rowOf c ks n).map Value.bool)) ∈ nw) (fun _ _ _ _ h hl => by obtain ⟨a, h1, h2⟩ := h; exact ⟨a, h1, hl _ h2⟩) ?_
  repeat' (first | ((with_reducible show wpAny _ _ (compareOp CmpOp.In (Value.int _ _) (Value.ref _)) _ _ _); (k_dflt (refine in_list_ints (by assumption) (by assumption) ?_))) | ((with_reducible show wpAny _ _ (subscriptTail _ _ _ _) _ _ _); ((with_reducible show wpAny _ _ (subscriptTail _ _ (Value.ref _) (Value.int _ _)) _ _ _); k_dflt (refine itemB (by assumption) (by omega) (by omega) (by assumption) ?_))) | ((with_reducible show wpAny _ _ (eval (PySem.Expr.Name _ _) _) _ _ _); (k_dflt (first | refine nameX_L (by assumption) (by assumption) ?_ | refine nameCL (by assumption) (by assumption) ?_ | refine nameCC (by assumption) (by assumption) rfl ?_))) | ((with_reducible show wpAny _ _ (exec (Stmt.Assign _ (PySem.Expr.ListComp _ _ _ _) _) _) _ _ _); (refine stop_of ?_)) | ((with_reducible show wpAny _ _ (eval (PySem.Expr.ListComp _ _ _ _) _) _ _ _); (refine stop_of ?_)) | ((with_reducible show wpAny _ _ (call (Value.ref _) _) _ _ _); (refine stop_of ?_)) | walk1 | (dsimp only; walk1) | fail "no step")
  rename Fr _ _ _ _ => F2
  rename News _ _ _ _ => N2
  rename IntsAre _ _ => hz0
  have hz : IntsAre _ [n0, n1, n2, n3] := hz0
  clear hz0
  have hzl := hz.length
  simp only [List.length_cons, List.length_nil] at hzl
  refine ⟨⟨[n0, n1, n2, n3], (fun k v => ∃ t, v = Value.int k t), _, .list (PySem.IsL.isList (N2.get (.head _))) (All2.ofInts hz) (by rw [sizeLine_eq]; omega), ?turn1, F2.ns, ?fin1⟩⟩
  case turn1 =>
    intro n v C co oc m2 nw H tk E2 hk hR hoc F3 N3
    obtain ⟨t, rfl⟩ := hR
    have hc7 : Heap.IsCell _ (L + 1 + 1 + 1 + 1 + 1 + 1 + 1) (some (Value.ref D1)) := ⟨o7, N2.get (by k_mem), d7⟩
    have hc4 := (Heap.IsCell.keeps (⟨o4, N2.get (by k_mem), d4⟩ : Heap.IsCell _ (L + 1 + 1 + 1 + 1) (some (Value.int c tc))) F3.keep)
    have hcn : Heap.IsCell H co (some (Value.int n t)) := ⟨oc, N3.get (.head _), hoc⟩
    have hlk : H.IsList D1 ys1.toArray := (PySem.IsL.isList (N2.get (a := D1) (by k_mem))).at fun o e => F3.keep _ _ e
    have XH := (K.X.keeps F2.keep).keeps F3.keep
    have TH := (K.T.keeps F2.keep).keeps F3.keep
    clear F2 N2 hz hzl hnext
    repeat' (first | ((with_reducible show wpAny _ _ (compareOp CmpOp.In (Value.int _ _) (Value.ref _)) _ _ _); (k_dflt (refine in_list_ints (by assumption) (by assumption) ?_))) | ((with_reducible show wpAny _ _ (subscriptTail _ _ _ _) _ _ _); ((with_reducible show wpAny _ _ (subscriptTail _ _ (Value.ref _) (Value.int _ _)) _ _ _); k_dflt (refine itemB (by assumption) (by omega) (by omega) (by assumption) ?_))) | ((with_reducible show wpAny _ _ (eval (PySem.Expr.Name _ _) _) _ _ _); (k_dflt (first | refine nameX_L (by assumption) (by assumption) ?_ | refine nameCL (by assumption) (by assumption) ?_ | refine nameCC (by assumption) (by assumption) rfl ?_))) | ((with_reducible show wpAny _ _ (exec (Stmt.Assign _ (PySem.Expr.ListComp _ _ _ _) _) _) _ _ _); (refine stop_of ?_)) | ((with_reducible show wpAny _ _ (eval (PySem.Expr.ListComp _ _ _ _) _) _ _ _); (refine stop_of ?_)) | ((with_reducible show wpAny _ _ (call (Value.ref _) _) _ _ _); (refine stop_of ?_)) | walk1 | (dsimp only; walk1) | fail "no step")
    refine ⟨?_⟩
    refine comp_E (α := Int) (fun k y _ => y = Value.bool (tkAt c (n.fmod 4).toNat k)) (fun _ _ _ _ h _ => h) ?_
    repeat' (first | ((with_reducible show wpAny _ _ (compareOp CmpOp.In (Value.int _ _) (Value.ref _)) _ _ _); (k_dflt (refine in_list_ints (by assumption) (by assumption) ?_))) | ((with_reducible show wpAny _ _ (subscriptTail _ _ _ _) _ _ _); ((with_reducible show wpAny _ _ (subscriptTail _ _ (Value.ref _) (Value.int _ _)) _ _ _); k_dflt (refine itemB (by assumption) (by omega) (by omega) (by assumption) ?_))) | ((with_reducible show wpAny _ _ (eval (PySem.Expr.Name _ _) _) _ _ _); (k_dflt (first | refine nameX_L (by assumption) (by assumption) ?_ | refine nameCL (by assumption) (by assumption) ?_ | refine nameCC (by assumption) (by assumption) rfl ?_))) | ((with_reducible show wpAny _ _ (exec (Stmt.Assign _ (PySem.Expr.ListComp _ _ _ _) _) _) _ _ _); (refine stop_of ?_)) | ((with_reducible show wpAny _ _ (eval (PySem.Expr.ListComp _ _ _ _) _) _ _ _); (refine stop_of ?_)) | ((with_reducible show wpAny _ _ (call (Value.ref _) _) _ _ _); (refine stop_of ?_)) | walk1 | (dsimp only; walk1) | fail "no step")
    have hksl := hks.length
    refine ⟨⟨ks, (fun k v => ∃ t, v = Value.int k t), .list hlk (All2.ofInts hks) (by rw [sizeLine_eq]; omega), ?turn2, ?fin2⟩⟩
    case turn2 =>
      intro k v C2 m3 nw2 H2 tk2 E3 hk hR2 hx F5 N5
      obtain ⟨t2, rfl⟩ := hR2
      repeat' (first | ((with_reducible show wpAny _ _ (compareOp CmpOp.In (Value.int _ _) (Value.ref _)) _ _ _); (k_dflt (refine in_list_ints (by assumption) (by assumption) ?_))) | ((with_reducible show wpAny _ _ (subscriptTail _ _ _ _) _ _ _); ((with_reducible show wpAny _ _ (subscriptTail _ _ (Value.ref _) (Value.int _ _)) _ _ _); k_dflt (refine itemB (by assumption) (by omega) (by omega) (by assumption) ?_))) | ((with_reducible show wpAny _ _ (eval (PySem.Expr.Name _ _) _) _ _ _); (k_dflt (first | refine nameX_L (by assumption) (by assumption) ?_ | refine nameCL (by assumption) (by assumption) ?_ | refine nameCC (by assumption) (by assumption) rfl ?_))) | ((with_reducible show wpAny _ _ (exec (Stmt.Assign _ (PySem.Expr.ListComp _ _ _ _) _) _) _ _ _); (refine stop_of ?_)) | ((with_reducible show wpAny _ _ (eval (PySem.Expr.ListComp _ _ _ _) _) _ _ _); (refine stop_of ?_)) | ((with_reducible show wpAny _ _ (call (Value.ref _) _) _ _ _); (refine stop_of ?_)) | walk1 | (dsimp only; walk1) | fail "no step")
      refine ⟨?_⟩
      have hc01 : 0 ≤ c ∧ c < 4 := by simp only [List.mem_cons, List.not_mem_nil, or_false] at hc; omega
      refine taken_spec (XH.keeps F5.keep) (TH.keeps F5.keep) (by omega) (by omega) hc01 ?_
      intro h4 tk4 r vs e hx4 hg hall
      have F6 := Ext.fr hx4 F5
      have N6 := Ext.news hx4 N5
      have hl : h4.IsList r vs.toArray := PySem.IsL.isList hg
      obtain ⟨j, hj, hkj⟩ := fm4 n
      have hk0 : 0 ≤ n.fmod 4 ∧ n.fmod 4 < 4 := by simp only [List.mem_cons, List.not_mem_nil, or_false] at hj; omega
      have hjj : (n.fmod 4).toNat = j := by omega
      obtain ⟨v, hv, a5, ws5, rfl, hl5, hi5⟩ := All2.pick hall (tkF_at c hc j hj)
      rw [← hjj] at hv hi5
      clear F5 N5 hj hkj hjj hall
      repeat' (first | ((with_reducible show wpAny _ _ (compareOp CmpOp.In (Value.int _ _) (Value.ref _)) _ _ _); (k_dflt (refine in_list_ints (by assumption) (by assumption) ?_))) | ((with_reducible show wpAny _ _ (subscriptTail _ _ _ _) _ _ _); ((with_reducible show wpAny _ _ (subscriptTail _ _ (Value.ref _) (Value.int _ _)) _ _ _); k_dflt (refine itemB (by assumption) (by omega) (by omega) (by assumption) ?_))) | ((with_reducible show wpAny _ _ (eval (PySem.Expr.Name _ _) _) _ _ _); (k_dflt (first | refine nameX_L (by assumption) (by assumption) ?_ | refine nameCL (by assumption) (by assumption) ?_ | refine nameCC (by assumption) (by assumption) rfl ?_))) | ((with_reducible show wpAny _ _ (exec (Stmt.Assign _ (PySem.Expr.ListComp _ _ _ _) _) _) _ _ _); (refine stop_of ?_)) | ((with_reducible show wpAny _ _ (eval (PySem.Expr.ListComp _ _ _ _) _) _ _ _); (refine stop_of ?_)) | ((with_reducible show wpAny _ _ (call (Value.ref _) _) _ _ _); (refine stop_of ?_)) | walk1 | (dsimp only; walk1) | fail "no step")
      exact ⟨⟨_, _, [], rfl, F6, N6, fun _ h => (nomatch h), rfl⟩⟩
    case fin2 =>
      intro D5 h5 tk5 ys5 nw5 hx5 hM5 hD5 hall5
      have F5 := Ext.fr hx5 F3
      have N5 := Ext.news hx5 N3
      have hf5 := (hM5 _ (.head _)).2
      have e5 := All2.map_eq hall5
      have e6 : ys5 = (rowOf c ks n).map Value.bool := by rw [e5]; simp [rowOf]
      subst e6
      exact ⟨⟨_, _, [(D5, _)], rfl, F5, Mine.News.one (hM5 _ (.head _)).1 (Mine.Fr.fresh F3 hf5) N5, (by
        intro p hp q hq; simp only [List.mem_cons, List.not_mem_nil, or_false] at hp; subst hp; exact ne_all N3 hf5 q hq), _, rfl, .head _⟩⟩
  case fin1 =>
    intro D4 h1 tk1 ys4 nw1 hN hkeep hM1 hD1 hall1
    obtain ⟨F3, N3⟩ := finA_of F2 N2 hN hkeep hM1
    refine hnext _ _ D4 ys4 _ F3 (cb_drop N3 ?_) rfl hmP hmB (hall1.mono fun n y _ h => ?_)
    · intro p hp
      simp only [cells4, List.mem_cons, List.not_mem_nil, or_false] at hp
      simp only [List.mem_append, List.mem_cons, List.not_mem_nil, or_false]
      rcases hp with h | h | h | h | h | h | h | h | h <;> subst h <;> simp
    · obtain ⟨a, rfl, ha⟩ := h
      have hh := hM1 _ (.tail _ ha)
      have hf := Mine.Fr.fresh F2 hh.2
      exact ⟨a, rfl, hh.1, hf.2, hf.1⟩
end Mine
end PartSC3

section PartSC4
open PySem PySem.W PyProof.Rows PySem.Calls
namespace Mine
theorem offSC4 : True := by w_top off; trivial
local macro_rules | `(tactic| walk_at "pad SC4") => `(tactic| skip)
variable {prog : Program} {w : World} {dp un : Nat} {gd : Option (List Code)} {fr : Option (List Env)} {s : Shared} {p : Program} {loose : List Str} {mean : ExcName → Option Value} {mg mb : Str → Option Value} {g : Heap}
theorem em_spec {Q : Value → Shared → Prop} {E : Value → Shared → Prop} {c i : Int} {m k : Nat} {t u : Tok} (X : (KK w.params).In s.heap) (T : Top p loose mean mg mb s.heap) (hroom : dp + 5 < recursionLimit) (hun : un + 30 < cLine)
    (hi : i ∈ ([0, 1, 2, 3] : List Int)) (hc : c ∈ ([0, 1, 2, 3] : List Int)) (hm : m ∈ [0, 1, 2, 3]) (hk : k ∈ [0, 1, 2, 3, 4, 5])
    (hret : ∀ h' tk', Ext s.heap h' → Q (.bool (tkAt c m (k : Int))) { s with heap := h', toks := tk' }) :
    wpAny (model prog w) (AA dp un gd fr) (call (.ref 63) [.str (patAt c i m) t, .str (opF i k) u]) Q E s := by
  obtain ⟨ok, hk'⟩ := cells i hi c hc m hm
  obtain ⟨hlen, hres⟩ := hk' k hk
  rw [← hres] at hret
  generalize patAt c i m = want at *
  generalize opF i k = got at *
  clear hres hk'
  unfold okPat at ok
  rw [Bool.and_eq_true] at ok
  obtain ⟨ok1, ok2⟩ := ok
  have hl1 : want.length ≤ 20 := of_decide_eq_true ok1
  cases hct : Txt.contains want dots with
  | false =>
    refine em_plain X T hroom hun hct fun h' tk' x => ?_
    have := hret h' tk' x
    rw [resF, hct, if_neg (by decide)] at this
    exact this
  | true =>
    rw [hct, Bool.not_true, Bool.false_or] at ok2
    cases hsp : Txt.split want dots with
    | nil => rw [hsp] at ok2; cases ok2
    | cons w0 r =>
      rw [hsp] at ok2
      dsimp only at ok2
      rw [Bool.and_eq_true, Bool.and_eq_true] at ok2
      obtain ⟨⟨o1, o2⟩, o3⟩ := ok2
      have hr : r ≠ [] := by rintro rfl; cases o1
      have hr2 : r = r.dropLast ++ [r.getLastD w0] := by
        have h1 := (List.dropLast_concat_getLast hr).symm
        have h2 : r.getLast hr = r.getLastD w0 := by
          cases r with
          | nil => exact absurd rfl hr
          | cons a l => rfl
        rwa [h2] at h1
      have hr10 : r.length ≤ 10 := of_decide_eq_true o2
      have hall : ∀ x ∈ w0 :: r, x.length ≤ 20 := fun x hx => of_decide_eq_true (List.all_eq_true.mp o3 x hx)
      refine em_dots (w0 := w0) (wl := r.getLastD w0) (mid := r.dropLast) X T hroom hun hct (by rw [← hr2]; exact hsp) (by rw [List.length_dropLast]; omega) (by rw [← hr2]; exact hall) hl1 hlen fun h' tk' x => ?_
      have := hret h' tk' x
      rw [resF, if_pos hct, hsp] at this
      exact this
variable {Q : Flow → Shared → Prop} {E : Value → Shared → Prop}
set_option maxRecDepth 100000 in
set_option maxHeartbeats 8000000 in
set_option pp.deepTerms false in
set_option pp.deepTerms.threshold 8 in
theorem segC4 {L fa D4 D3 D2 : Addr} {ys2 ys3 ys4 : List Value} {cd : Value} {m : Str → Option Value} {i c B : Int} {tB : Tok} {n0 n1 n2 n3 : Int} {o3 o4 o7 o8 t1 t2 : Obj} {ks : List Int} (K : Base w p loose mean mg mb g) (F : Fr g L s.heap m)
    (N : News g L s.heap ((D4, LCg.lst ys4) :: (D3, LCg.lst ys3) :: (D2, LCg.lst ys2) :: cells4 L o3 o4 o7 o8 t1 t2)) (hdp : dp + 200 < recursionLimit) (hun : un + 200 < cLine)
    (hi : i ∈ ([0, 1, 2, 3] : List Int)) (hc : c ∈ ([0, 1, 2, 3] : List Int)) (d8 : o8.data = .cell (some (.ref D2))) (hkl : ks.length = 4) (hk6 : ∀ k ∈ ks, 0 ≤ k ∧ k < 6)
    (hops : All2 (fun (k : Int) y => ∃ t, y = Value.str (opF i k.toNat) t) ks ys2) (hpats : All2 (fun (n : Int) y => ∃ t, y = Value.str (patAt c i (n.fmod 4).toNat) t) [n0, n1, n2, n3] ys3)
    (hmb : m (Str.ofString "board") = some (.ref D4)) (hmP : m (Str.ofString "patterns") = some (.ref D3)) (hmB : m (Str.ofString "base") = some (.int B tB))
    (hboard : All2 (fun (n : Int) y => ∃ a, y = Value.ref a ∧ s.heap.get? a = some (LCg.lst ((rowOf c ks n).map Value.bool)) ∧ g.get? a = none ∧ a ≠ L) [n0, n1, n2, n3] ys4)
    (hnext : ∀ h' tk' D5 ys5 m', Fr g L h' m' → News g L h' ((D5, LCg.lst ys5) :: (D4, LCg.lst ys4) :: [(37, t1), (30, t2)]) →
      m' (Str.ofString "seen") = some (.ref D5) → m' (Str.ofString "board") = some (.ref D4) → m' (Str.ofString "base") = some (.int B tB) →
      All2 (fun (n : Int) y => ∃ a, y = Value.ref a ∧ h'.get? a = some (LCg.lst ((rowOf c ks n).map Value.bool)) ∧ g.get? a = none ∧ a ≠ L) [n0, n1, n2, n3] ys4 →
      All2 (fun (n : Int) y => ∃ a, y = Value.ref a ∧ h'.get? a = some (LCg.lst ((rowOf c ks n).map Value.bool)) ∧ g.get? a = none ∧ a ≠ L) [n0, n1, n2, n3] ys5 →
      wpAny (model prog w) (AA dp un gd fr) (execs ((bodyOf lawS).drop 13) (envOfC (Str.ofString "law") (scopeOf lawS) L fa cd)) Q E { s with heap := h', toks := tk' }) :
    wpAny (model prog w) (AA dp un gd fr) (execs ((bodyOf lawS).drop 12) (envOfC (Str.ofString "law") (scopeOf lawS) L fa cd)) Q E s := by
  dsimp only [lawS, nth, bodyOf, scopeOf, PySem.Challenge.pw_qu0053_01, List.drop]
  simp only [cells4] at N
  have X := K.X
  have T := K.T
  repeat' (first | ((with_reducible show wpAny _ _ (eval (PySem.Expr.Name _ _) _) _ _ _); (k_dflt (first | refine nameX_L (by assumption) (by assumption) ?_ | refine nameCL (by assumption) (by assumption) ?_ | refine nameCC (by assumption) (by assumption) rfl ?_))) | ((with_reducible show wpAny _ _ (exec (Stmt.Assign _ (PySem.Expr.ListComp _ _ _ _) _) _) _ _ _); (refine stop_of ?_)) | ((with_reducible show wpAny _ _ (eval (PySem.Expr.ListComp _ _ _ _) _) _ _ _); (refine stop_of ?_)) | ((with_reducible show wpAny _ _ (call (Value.ref _) _) _ _ _); (refine stop_of ?_)) | walk1 | (dsimp only; walk1) | fail "no step")
  refine ⟨?_⟩
  refine comp_Ac (α := Int) (fun n y nw => ∃ a, y = Value.ref a ∧ (a, LCg.lst ((rowOf c ks n).map Value.bool)) ∈ nw) (fun _ _ _ _ h hl => by obtain ⟨a, h1, h2⟩ := h; exact ⟨a, h1, hl _ h2⟩) ?_
  repeat' (first | ((with_reducible show wpAny _ _ (eval (PySem.Expr.Name _ _) _) _ _ _); (k_dflt (first | refine nameX_L (by assumption) (by assumption) ?_ | refine nameCL (by assumption) (by assumption) ?_ | refine nameCC (by assumption) (by assumption) rfl ?_))) | ((with_reducible show wpAny _ _ (exec (Stmt.Assign _ (PySem.Expr.ListComp _ _ _ _) _) _) _ _ _); (refine stop_of ?_)) | ((with_reducible show wpAny _ _ (eval (PySem.Expr.ListComp _ _ _ _) _) _ _ _); (refine stop_of ?_)) | ((with_reducible show wpAny _ _ (call (Value.ref _) _) _ _ _); (refine stop_of ?_)) | walk1 | (dsimp only; walk1) | fail "no step")
  have hpl := All2.length hpats
  have hol := All2.length hops
  simp only [List.length_cons, List.length_nil] at hpl
  refine ⟨⟨[n0, n1, n2, n3], _, _, .list (PySem.IsL.isList (N.get (a := D3) (by k_mem))) hpats (by rw [sizeLine_eq]; omega), ?turn1, F.ns, ?fin1⟩⟩
  case turn1 =>
    intro n v C co oc m2 nw H tk E2 hk hR hoc F3 N3
    obtain ⟨t, rfl⟩ := hR
    have hc8 : Heap.IsCell _ (L + 1 + 1 + 1 + 1 + 1 + 1 + 1 + 1) (some (Value.ref D2)) := ⟨o8, N.get (by k_mem), d8⟩
    have hcn : Heap.IsCell H co (some (Value.str (patAt c i (n.fmod 4).toNat) t)) := ⟨oc, N3.get (.head _), hoc⟩
    have hlk : H.IsList D2 ys2.toArray := (PySem.IsL.isList (N.get (a := D2) (by k_mem))).at fun o e => F3.keep _ _ e
    have XH := (K.X.keeps F.keep).keeps F3.keep
    have TH := (K.T.keeps F.keep).keeps F3.keep
    clear F N hnext hboard
    repeat' (first | ((with_reducible show wpAny _ _ (eval (PySem.Expr.Name _ _) _) _ _ _); (k_dflt (first | refine nameX_L (by assumption) (by assumption) ?_ | refine nameCL (by assumption) (by assumption) ?_ | refine nameCC (by assumption) (by assumption) rfl ?_))) | ((with_reducible show wpAny _ _ (exec (Stmt.Assign _ (PySem.Expr.ListComp _ _ _ _) _) _) _ _ _); (refine stop_of ?_)) | ((with_reducible show wpAny _ _ (eval (PySem.Expr.ListComp _ _ _ _) _) _ _ _); (refine stop_of ?_)) | ((with_reducible show wpAny _ _ (call (Value.ref _) _) _ _ _); (refine stop_of ?_)) | walk1 | (dsimp only; walk1) | fail "no step")
    refine ⟨?_⟩
    refine comp_E (α := Int) (fun k y _ => y = Value.bool (tkAt c (n.fmod 4).toNat k)) (fun _ _ _ _ h _ => h) ?_
    repeat' (first | ((with_reducible show wpAny _ _ (eval (PySem.Expr.Name _ _) _) _ _ _); (k_dflt (first | refine nameX_L (by assumption) (by assumption) ?_ | refine nameCL (by assumption) (by assumption) ?_ | refine nameCC (by assumption) (by assumption) rfl ?_))) | ((with_reducible show wpAny _ _ (exec (Stmt.Assign _ (PySem.Expr.ListComp _ _ _ _) _) _) _ _ _); (refine stop_of ?_)) | ((with_reducible show wpAny _ _ (eval (PySem.Expr.ListComp _ _ _ _) _) _ _ _); (refine stop_of ?_)) | ((with_reducible show wpAny _ _ (call (Value.ref _) _) _ _ _); (refine stop_of ?_)) | walk1 | (dsimp only; walk1) | fail "no step")
    refine ⟨⟨ks, _, .list hlk hops (by rw [sizeLine_eq]; omega), ?turn2, ?fin2⟩⟩
    case turn2 =>
      intro k v C2 m3 nw2 H2 tk2 E3 hk2 hR2 hx F5 N5
      obtain ⟨t2, rfl⟩ := hR2
      repeat' (first | ((with_reducible show wpAny _ _ (eval (PySem.Expr.Name _ _) _) _ _ _); (k_dflt (first | refine nameX_L (by assumption) (by assumption) ?_ | refine nameCL (by assumption) (by assumption) ?_ | refine nameCC (by assumption) (by assumption) rfl ?_))) | ((with_reducible show wpAny _ _ (exec (Stmt.Assign _ (PySem.Expr.ListComp _ _ _ _) _) _) _ _ _); (refine stop_of ?_)) | ((with_reducible show wpAny _ _ (eval (PySem.Expr.ListComp _ _ _ _) _) _ _ _); (refine stop_of ?_)) | ((with_reducible show wpAny _ _ (call (Value.ref _) _) _ _ _); (refine stop_of ?_)) | walk1 | (dsimp only; walk1) | fail "no step")
      refine ⟨?_⟩
      obtain ⟨j, hj, hkj⟩ := fm4 n
      have hjj : (n.fmod 4).toNat = j := by omega
      have hk7 := hk6 k hk2
      have hkN : k.toNat ∈ [0, 1, 2, 3, 4, 5] := sixN hk7
      refine em_spec (c := c) (XH.keeps F5.keep) (TH.keeps F5.keep) (by omega) (by omega) hi hc (by rw [hjj]; exact hj) hkN ?_
      intro h4 tk4 hx4
      have F6 := Ext.fr hx4 F5
      have N6 := Ext.news hx4 N5
      rw [show ((k.toNat : Nat) : Int) = k by omega]
      clear F5 N5 hj hkj hjj hkN
      repeat' (first | ((with_reducible show wpAny _ _ (eval (PySem.Expr.Name _ _) _) _ _ _); (k_dflt (first | refine nameX_L (by assumption) (by assumption) ?_ | refine nameCL (by assumption) (by assumption) ?_ | refine nameCC (by assumption) (by assumption) rfl ?_))) | ((with_reducible show wpAny _ _ (exec (Stmt.Assign _ (PySem.Expr.ListComp _ _ _ _) _) _) _ _ _); (refine stop_of ?_)) | ((with_reducible show wpAny _ _ (eval (PySem.Expr.ListComp _ _ _ _) _) _ _ _); (refine stop_of ?_)) | ((with_reducible show wpAny _ _ (call (Value.ref _) _) _ _ _); (refine stop_of ?_)) | walk1 | (dsimp only; walk1) | fail "no step")
      exact ⟨⟨_, _, [], rfl, F6, N6, fun _ h => (nomatch h), (congrArg Value.bool (by simp))⟩⟩
    case fin2 =>
      intro D5 h5 tk5 ys5 nw5 hx5 hM5 hD5 hall5
      have F5 := Ext.fr hx5 F3
      have N5 := Ext.news hx5 N3
      have hf5 := (hM5 _ (.head _)).2
      have e5 := All2.map_eq hall5
      have e6 : ys5 = (rowOf c ks n).map Value.bool := by rw [e5]; simp [rowOf]
      subst e6
      exact ⟨⟨_, _, [(D5, _)], rfl, F5, Mine.News.one (hM5 _ (.head _)).1 (Mine.Fr.fresh F3 hf5) N5, (by
        intro p hp q hq; simp only [List.mem_cons, List.not_mem_nil, or_false] at hp; subst hp; exact ne_all N3 hf5 q hq), _, rfl, .head _⟩⟩
  case fin1 =>
    intro D5 h1 tk1 ys5 nw1 hN hkeep hM1 hD1 hall1
    obtain ⟨F3, N3⟩ := finA_of F N hN hkeep hM1
    refine hnext _ _ D5 ys5 _ F3 (cb_drop N3 ?_) rfl hmb hmB (hboard.mono fun n y _ h => ?_) (hall1.mono fun n y _ h => ?_)
    · intro p hp
      simp only [cells4, List.mem_cons, List.not_mem_nil, or_false] at hp
      simp only [List.mem_append, List.mem_cons, List.not_mem_nil, or_false]
      rcases hp with h | h | h | h <;> subst h <;> simp
    · obtain ⟨a, rfl, ha, hga, haL⟩ := h
      exact ⟨a, rfl, hkeep _ _ haL ha, hga, haL⟩
    · obtain ⟨a, rfl, ha⟩ := h
      have hh := hM1 _ (.tail _ ha)
      have hf := Mine.Fr.fresh F hh.2
      exact ⟨a, rfl, hh.1, hf.2, hf.1⟩
end Mine
end PartSC4

section PartSD
open PySem PySem.W PyProof.Rows PySem.Calls PyProof.V PySem.Spec PySem.SeqAt
namespace Mine
variable {prog : Program} {w : World} {dp un : Nat} {gd : Option (List Code)} {fr : Option (List Env)} {s : Shared} {p : Program} {loose : List Str} {mean : ExcName → Option Value} {mg mb : Str → Option Value} {g : Heap}
def RowAt (g : Heap) (L : Addr) (h : Heap) (r : List Bool) (y : Value) : Prop := ∃ a, y = Value.ref a ∧ h.get? a = some (LCg.lst (r.map Value.bool)) ∧ g.get? a = none ∧ a ≠ L
def bd (r : List Bool) : List PyData := r.map .bool
def rd (rows : List (List Bool)) : List PyData := rows.map fun r => .list (bd r)
theorem readsB {h : Heap} : ∀ r : List Bool, ReadsAll h (r.map Value.bool) (bd r) []
  | [] => .nil
  | b :: r => ReadsAll.cons (as := []) (bs := []) (Reads.bool b) (readsB r)
theorem readsR {g h : Heap} {L : Addr} : ∀ {rows : List (List Bool)} {vs : List Value}, All2 (RowAt g L h) rows vs → ∃ as, ReadsAll h vs (rd rows) as
  | _, _, .nil => ⟨_, .nil⟩
  | r :: _, _, .cons ⟨a, e, ha, _, _⟩ q => by
    obtain ⟨as, h2⟩ := readsR q
    subst e
    exact ⟨_, ReadsAll.cons (Reads.list ha rfl rfl (readsB r)) h2⟩
theorem layB : ∀ r : List Bool, PyData.canLayAll0 (bd r) = true
  | [] => by simp [bd, PyData.canLayAll0]
  | b :: r => by have := layB r; simp only [bd] at this; simp [bd, PyData.canLayAll0, PyData.canLay0, this]
theorem layR : ∀ rows : List (List Bool), PyData.canLayAll0 (rd rows) = true
  | [] => by simp [rd, PyData.canLayAll0]
  | r :: q => by have := layR q; simp only [rd] at this; simp [rd, PyData.canLayAll0, PyData.canLay0, this, layB r]
theorem depB : ∀ r : List Bool, PyData.depthAll (bd r) ≤ 1
  | [] => by simp [bd, PyData.depthAll]
  | b :: r => by have := depB r; simp only [bd] at this; simp only [bd, List.map_cons, PyData.depthAll, PyData.depth]; omega
theorem depR : ∀ rows : List (List Bool), PyData.depthAll (rd rows) ≤ 2
  | [] => by simp [rd, PyData.depthAll]
  | r :: q => by have := depR q; have h2 := depB r; simp only [rd] at this; simp only [rd, List.map_cons, PyData.depthAll, PyData.depth]; omega
theorem mixB : ∀ r : List Bool, noMixAll (bd r) (bd r) = true
  | [] => by simp [bd, noMixAll]
  | b :: r => by have := mixB r; simp only [bd] at this; simp [bd, noMixAll, noMix, this]
theorem mixR : ∀ rows : List (List Bool), noMixAll (rd rows) (rd rows) = true
  | [] => by simp [rd, noMixAll]
  | r :: q => by have := mixR q; simp only [rd] at this; simp [rd, noMixAll, noMix, this, mixB r]
theorem shapR (rows : List (List Bool)) : shaped (.list (rd rows)) = true := by
  have h1 := depR rows
  show (PyData.canLay0 (.list (rd rows)) && decide (PyData.depth (.list (rd rows)) ≤ 64)) = true
  rw [Bool.and_eq_true]
  exact ⟨by simp only [PyData.canLay0]; exact layR rows, decide_eq_true (by simp only [PyData.depth]; omega)⟩
theorem allB : ∀ r : List Bool, (bd r).all Shape.bool.has = true
  | [] => rfl
  | b :: r => by have := allB r; simp only [bd] at this; simp only [bd, List.map_cons, List.all_cons, this]; rfl
theorem countB {r : List Bool} (h : r.length = 4) : PySem.Spec.countIn (.bool true) (bd r) = cntR r := by
  rw [cntR_eq]
  match r, h with
  | [a, b, c, d], _ => cases a <;> cases b <;> cases c <;> cases d <;> rfl
section
variable {A : Around} {Q : Value → Shared → Prop} {E : Value → Shared → Prop}
theorem neRows {L a b : Addr} {va vb : List Value} {rows : List (List Bool)} (ha : s.heap.get? a = some (LCg.lst va)) (hb : s.heap.get? b = some (LCg.lst vb)) (ra : All2 (RowAt g L s.heap) rows va) (rb : All2 (RowAt g L s.heap) rows vb)
    (hu : A.units + 64 < cLine) (h : Q (.bool false) s) : wpAny (model prog w) A (compareOp .NotEq (.ref a) (.ref b)) Q E s := by
  obtain ⟨as, h1⟩ := readsR ra
  obtain ⟨bs, h2⟩ := readsR rb
  refine ne_dataH_same (Reads.list ha rfl rfl h1) (Reads.list hb rfl rfl h2) (shapR rows) (shapR rows) hu (by simp only [noMix]; exact mixR rows) ?_
  rw [PySem.Spec.same_self]
  exact h
theorem countT {a : Addr} {r : List Bool} (ha : s.heap.get? a = some (LCg.lst (r.map Value.bool))) (h4 : r.length = 4) (h : Q (.int (cntR r) s.toks) { s with toks := s.toks + 1 }) :
    wpAny (model prog w) A (call (.builtin "list.count") [.ref a, .bool true]) Q E s :=
  count_list_bools (PySem.IsL.isList ha) (readsB (h := s.heap) r) (allB r) (by rw [countB h4]; exact h)
end
end Mine
end PartSD

section PartSD1
open PySem PySem.W PyProof.Rows PySem.Calls
namespace Mine
theorem offSD1 : True := by w_top off; trivial
variable {prog : Program} {w : World} {dp un : Nat} {gd : Option (List Code)} {fr : Option (List Env)} {s : Shared} {p : Program} {loose : List Str} {mean : ExcName → Option Value} {mg mb : Str → Option Value} {g : Heap} {Q : Flow → Shared → Prop} {E : Value → Shared → Prop}
theorem rows_ledger {g h : Heap} {L : Addr} : ∀ {rows : List (List Bool)} {ys : List Value}, All2 (RowAt g L h) rows ys → ∃ nw, News g L h nw ∧ All2 (fun r y => ∃ a, y = Value.ref a ∧ (a, LCg.lst (r.map Value.bool)) ∈ nw) rows ys
  | _, _, .nil => ⟨[], News.nil, .nil⟩
  | r :: _, _, .cons ⟨a, e, ha, h1, h2⟩ q => by
    obtain ⟨nw, N, hq⟩ := rows_ledger q
    exact ⟨(a, LCg.lst (r.map Value.bool)) :: nw, Mine.News.one ha ⟨h2, h1⟩ N, .cons ⟨a, e, .head _⟩ (hq.mono fun r y _ hh => by obtain ⟨b, e, hm⟩ := hh; exact ⟨b, e, .tail _ hm⟩)⟩
theorem rows_back {g h : Heap} {L : Addr} {rows : List (List Bool)} {ys : List Value} {nw news : List (Addr × Obj)} (N : News g L h news) (hs : ∀ p ∈ nw, p ∈ news) (hq : All2 (fun r y => ∃ a, y = Value.ref a ∧ (a, LCg.lst (r.map Value.bool)) ∈ nw) rows ys) : All2 (RowAt g L h) rows ys :=
  hq.mono fun r y _ hh => by obtain ⟨b, e, hm⟩ := hh; exact ⟨b, e, (N _ (hs _ hm)).1, (N _ (hs _ hm)).2.2, (N _ (hs _ hm)).2.1⟩
theorem news_app {g h : Heap} {L : Addr} {l l' : List (Addr × Obj)} (N : News g L h l) (N' : News g L h l') : News g L h (l ++ l') := fun p hp => (List.mem_append.mp hp).elim (N p) (N' p)
set_option maxRecDepth 100000 in
set_option maxHeartbeats 8000000 in
set_option pp.deepTerms false in
set_option pp.deepTerms.threshold 8 in
theorem segD1 {L fa D5 D4 : Addr} {ys4 ys5 : List Value} {cd : Value} {m : Str → Option Value} {B : Int} {tB : Tok} {rows : List (List Bool)} {t1 t2 : Obj} (K : Base w p loose mean mg mb g) (F : Fr g L s.heap m)
    (N : News g L s.heap ((D5, LCg.lst ys5) :: (D4, LCg.lst ys4) :: [(37, t1), (30, t2)])) (hdp : dp + 200 < recursionLimit) (hun : un + 200 < cLine)
    (hrl : rows.length = 4) (hr4 : ∀ r ∈ rows, r.length = 4)
    (hmS : m (Str.ofString "seen") = some (.ref D5)) (hmb : m (Str.ofString "board") = some (.ref D4)) (hmB : m (Str.ofString "base") = some (.int B tB))
    (hB4 : All2 (RowAt g L s.heap) rows ys4) (hB5 : All2 (RowAt g L s.heap) rows ys5)
    (hnext : ∀ h' tk' D6 vs6 e6 cs m', Fr g L h' m' → News g L h' ((D6, W.listOf vs6.toArray e6) :: (D4, LCg.lst ys4) :: [(37, t1), (30, t2)]) →
      m' (Str.ofString "counts") = some (.ref D6) → m' (Str.ofString "board") = some (.ref D4) → m' (Str.ofString "base") = some (.int B tB) →
      All2 (RowAt g L h') rows ys4 → IntsAre vs6 cs → cs.Perm (rows.map cntR) → cs.Pairwise (· ≤ ·) →
      wpAny (model prog w) (AA dp un gd fr) (execs ((bodyOf lawS).drop 15) (envOfC (Str.ofString "law") (scopeOf lawS) L fa cd)) Q E { s with heap := h', toks := tk' }) :
    wpAny (model prog w) (AA dp un gd fr) (execs ((bodyOf lawS).drop 13) (envOfC (Str.ofString "law") (scopeOf lawS) L fa cd)) Q E s := by
  dsimp only [lawS, nth, bodyOf, scopeOf, PySem.Challenge.pw_qu0053_01, List.drop]
  have X := K.X
  have T := K.T
  repeat' (first | ((with_reducible show wpAny _ _ (execs (Stmt.If (PySem.Expr.Compare (PySem.Expr.Call _ _ _ _) _ _ _) _ _ _ :: _) _) _ _ _); refine stop_of ?_) | ((with_reducible show wpAny _ _ (call (Value.builtin "sorted") _) _ _ _); (refine stop_of ?_)) | ((with_reducible show wpAny _ _ (call (Value.builtin "list.count") _) _ _ _); (k_dflt (refine countT (by assumption) (by assumption) ?_))) | ((with_reducible show wpAny _ _ (getMethod (Value.ref _) _ _) _ _ _); (k_dflt (refine getMethod_list_of PySem.F.slot_list_count PySem.F.type_list_count (by assumption) (by assumption) ?_))) | ((with_reducible show wpAny _ _ (compareOp CmpOp.NotEq (Value.ref _) (Value.ref _)) _ _ _); (k_dflt (refine neRows (News.get (by assumption) (.head _)) (News.get (by assumption) (.tail _ (.head _))) (by assumption) (by assumption) (by show un + 64 < _; omega) ?_))) | ((with_reducible show wpAny _ _ (eval (PySem.Expr.Name _ _) _) _ _ _); (k_dflt (first | refine nameX_L (by assumption) (by assumption) ?_ | refine nameCL (by assumption) (by assumption) ?_ | refine nameCC (by assumption) (by assumption) rfl ?_))) | ((with_reducible show wpAny _ _ (eval (PySem.Expr.ListComp _ _ _ _) _) _ _ _); (refine stop_of ?_)) | ((with_reducible show wpAny _ _ (call (Value.ref _) _) _ _ _); (refine stop_of ?_)) | walk1 | (dsimp only; walk1) | fail "no step")
  refine ⟨?_⟩
  refine comp_E (α := List Bool) (fun r y _ => ∃ t, y = Value.int (cntR r) t) (fun _ _ _ _ h _ => h) ?_
  repeat' (first | ((with_reducible show wpAny _ _ (execs (Stmt.If (PySem.Expr.Compare (PySem.Expr.Call _ _ _ _) _ _ _) _ _ _ :: _) _) _ _ _); refine stop_of ?_) | ((with_reducible show wpAny _ _ (call (Value.builtin "sorted") _) _ _ _); (refine stop_of ?_)) | ((with_reducible show wpAny _ _ (call (Value.builtin "list.count") _) _ _ _); (k_dflt (refine countT (by assumption) (by assumption) ?_))) | ((with_reducible show wpAny _ _ (getMethod (Value.ref _) _ _) _ _ _); (k_dflt (refine getMethod_list_of PySem.F.slot_list_count PySem.F.type_list_count (by assumption) (by assumption) ?_))) | ((with_reducible show wpAny _ _ (compareOp CmpOp.NotEq (Value.ref _) (Value.ref _)) _ _ _); (k_dflt (refine neRows (News.get (by assumption) (.head _)) (News.get (by assumption) (.tail _ (.head _))) (by assumption) (by assumption) (by show un + 64 < _; omega) ?_))) | ((with_reducible show wpAny _ _ (eval (PySem.Expr.Name _ _) _) _ _ _); (k_dflt (first | refine nameX_L (by assumption) (by assumption) ?_ | refine nameCL (by assumption) (by assumption) ?_ | refine nameCC (by assumption) (by assumption) rfl ?_))) | ((with_reducible show wpAny _ _ (eval (PySem.Expr.ListComp _ _ _ _) _) _ _ _); (refine stop_of ?_)) | ((with_reducible show wpAny _ _ (call (Value.ref _) _) _ _ _); (refine stop_of ?_)) | walk1 | (dsimp only; walk1) | fail "no step")
  have hl5 := All2.length hB5
  refine ⟨⟨rows, _, .list (PySem.IsL.isList (N.get (a := D5) (by k_mem))) hB5 (by rw [sizeLine_eq]; omega), ?turn1, ?fin1⟩⟩
  case turn1 =>
    intro r v C m2 nw H tk E2 hk hR hx F3 N3
    obtain ⟨a, rfl, ha, _, _⟩ := hR
    have ha2 := F3.keep _ _ ha
    have hal : H.IsList a (r.map Value.bool).toArray := PySem.IsL.isList ha2
    have hnd : H.NoDictAt (.ref a) := ⟨_, ha2, rfl⟩
    have hr := hr4 r hk
    clear F N hnext hB4 hB5
    iterate 12 (first | ((with_reducible show wpAny _ _ (execs (Stmt.If (PySem.Expr.Compare (PySem.Expr.Call _ _ _ _) _ _ _) _ _ _ :: _) _) _ _ _); refine stop_of ?_) | ((with_reducible show wpAny _ _ (call (Value.builtin "sorted") _) _ _ _); (refine stop_of ?_)) | ((with_reducible show wpAny _ _ (call (Value.builtin "list.count") _) _ _ _); (k_dflt (refine countT (by assumption) (by assumption) ?_))) | ((with_reducible show wpAny _ _ (getMethod (Value.ref _) _ _) _ _ _); (k_dflt (refine getMethod_list_of PySem.F.slot_list_count PySem.F.type_list_count (by assumption) (by assumption) ?_))) | ((with_reducible show wpAny _ _ (compareOp CmpOp.NotEq (Value.ref _) (Value.ref _)) _ _ _); (k_dflt (refine neRows (News.get (by assumption) (.head _)) (News.get (by assumption) (.tail _ (.head _))) (by assumption) (by assumption) (by show un + 64 < _; omega) ?_))) | ((with_reducible show wpAny _ _ (eval (PySem.Expr.Name _ _) _) _ _ _); (k_dflt (first | refine nameX_L (by assumption) (by assumption) ?_ | refine nameCL (by assumption) (by assumption) ?_ | refine nameCC (by assumption) (by assumption) rfl ?_))) | ((with_reducible show wpAny _ _ (eval (PySem.Expr.ListComp _ _ _ _) _) _ _ _); (refine stop_of ?_)) | ((with_reducible show wpAny _ _ (call (Value.ref _) _) _ _ _); (refine stop_of ?_)) | walk1 | (dsimp only; walk1) | skip)
    exact ⟨⟨_, _, [], rfl, F3, N3, fun _ h => (nomatch h), _, rfl⟩⟩
  case fin1 =>
    intro D6 h6 tk6 ys6 nw6 hx6 hM6 hD6 hall6
    have hI6 : IntsAre ys6 (rows.map cntR) := All2.ints (All2.map1 (f := cntR) (as := rows) (R := fun k v => ∃ t, v = Value.int k t) hall6)
    have F3 := Ext.fr hx6 F
    have hf6 := (hM6 _ (.head _)).2
    have N3 := Mine.News.one (hM6 _ (.head _)).1 (Mine.Fr.fresh F hf6) (Ext.news hx6 N)
    have hB6 : All2 (RowAt g L h6) rows ys4 := hB4.mono fun r y _ h => by obtain ⟨a, e, ha, h3⟩ := h; exact ⟨a, e, hx6 _ _ ha, h3⟩
    obtain ⟨nwR, NR, hR⟩ := rows_ledger hB6
    have N4 := news_app N3 NR
    simp only [List.cons_append, List.nil_append] at N4
    clear F N hB6 hB4 hB5 N3
    repeat' (first | ((with_reducible show wpAny _ _ (execs (Stmt.If (PySem.Expr.Compare (PySem.Expr.Call _ _ _ _) _ _ _) _ _ _ :: _) _) _ _ _); refine stop_of ?_) | ((with_reducible show wpAny _ _ (call (Value.builtin "sorted") _) _ _ _); (refine stop_of ?_)) | ((with_reducible show wpAny _ _ (call (Value.builtin "list.count") _) _ _ _); (k_dflt (refine countT (by assumption) (by assumption) ?_))) | ((with_reducible show wpAny _ _ (getMethod (Value.ref _) _ _) _ _ _); (k_dflt (refine getMethod_list_of PySem.F.slot_list_count PySem.F.type_list_count (by assumption) (by assumption) ?_))) | ((with_reducible show wpAny _ _ (compareOp CmpOp.NotEq (Value.ref _) (Value.ref _)) _ _ _); (k_dflt (refine neRows (News.get (by assumption) (.head _)) (News.get (by assumption) (.tail _ (.head _))) (by assumption) (by assumption) (by show un + 64 < _; omega) ?_))) | ((with_reducible show wpAny _ _ (eval (PySem.Expr.Name _ _) _) _ _ _); (k_dflt (first | refine nameX_L (by assumption) (by assumption) ?_ | refine nameCL (by assumption) (by assumption) ?_ | refine nameCC (by assumption) (by assumption) rfl ?_))) | ((with_reducible show wpAny _ _ (eval (PySem.Expr.ListComp _ _ _ _) _) _ _ _); (refine stop_of ?_)) | ((with_reducible show wpAny _ _ (call (Value.ref _) _) _ _ _); (refine stop_of ?_)) | walk1 | (dsimp only; walk1) | fail "no step")
    refine ⟨?_⟩
    have hl6 := hI6.length
    refine kso_sorted F3 N4 (PySem.IsL.isList (N4.get (.head _))) hI6 (by simp only [List.length_map]; omega) ?_
    intro D7 vs7 ns7 c7 h7 F7 N7 hq7 hi7 hlen7 hperm hpw _
    clear F3 N4
    repeat' (first | ((with_reducible show wpAny _ _ (execs (Stmt.If (PySem.Expr.Compare (PySem.Expr.Call _ _ _ _) _ _ _) _ _ _ :: _) _) _ _ _); refine stop_of ?_) | ((with_reducible show wpAny _ _ (call (Value.builtin "sorted") _) _ _ _); (refine stop_of ?_)) | ((with_reducible show wpAny _ _ (call (Value.builtin "list.count") _) _ _ _); (k_dflt (refine countT (by assumption) (by assumption) ?_))) | ((with_reducible show wpAny _ _ (getMethod (Value.ref _) _ _) _ _ _); (k_dflt (refine getMethod_list_of PySem.F.slot_list_count PySem.F.type_list_count (by assumption) (by assumption) ?_))) | ((with_reducible show wpAny _ _ (compareOp CmpOp.NotEq (Value.ref _) (Value.ref _)) _ _ _); (k_dflt (refine neRows (News.get (by assumption) (.head _)) (News.get (by assumption) (.tail _ (.head _))) (by assumption) (by assumption) (by show un + 64 < _; omega) ?_))) | ((with_reducible show wpAny _ _ (eval (PySem.Expr.Name _ _) _) _ _ _); (k_dflt (first | refine nameX_L (by assumption) (by assumption) ?_ | refine nameCL (by assumption) (by assumption) ?_ | refine nameCC (by assumption) (by assumption) rfl ?_))) | ((with_reducible show wpAny _ _ (eval (PySem.Expr.ListComp _ _ _ _) _) _ _ _); (refine stop_of ?_)) | ((with_reducible show wpAny _ _ (call (Value.ref _) _) _ _ _); (refine stop_of ?_)) | walk1 | (dsimp only; walk1) | fail "no step")
    refine ⟨?_⟩
    rename Fr _ _ _ _ => F8
    rename News _ _ _ _ => N8
    refine hnext _ _ D7 vs7 c7 ns7 _ F8 (cb_drop N8 ?_) ?_ ?_ ?_ (rows_back N8 (nw := nwR) ?_ hR) hi7 hperm hpw
    · intro p hp
      simp only [List.mem_cons, List.not_mem_nil, or_false] at hp
      rcases hp with h | h | h | h <;> subst h <;> simp
    · rfl
    · rw [if_neg (by decide)]; exact hmb
    · rw [if_neg (by decide)]; exact hmB
    · exact fun p hp => .tail _ (.tail _ (.tail _ (.tail _ (.tail _ (.tail _ hp)))))
end Mine
end PartSD1

section PartSD2
open PySem PySem.W PyProof.Rows PySem.Calls
namespace Mine
theorem offSD2 : True := by w_top off; trivial
local macro_rules | `(tactic| walk_at "pad SD2") => `(tactic| skip)
variable {prog : Program} {w : World} {dp un : Nat} {gd : Option (List Code)} {fr : Option (List Env)} {s : Shared} {p : Program} {loose : List Str} {mean : ExcName → Option Value} {mg mb : Str → Option Value} {g : Heap}
theorem neInts {A : Around} {Q : Value → Shared → Prop} {E : Value → Shared → Prop} {a b : Addr} {vs us : List Value} {ns : List Int} (hl : s.heap.IsList a vs.toArray) (hi : IntsAre vs ns) (hl' : s.heap.IsList b us.toArray) (hi' : IntsAre us ns) (hu : A.units + 64 < cLine)
    (h : Q (.bool false) s) : wpAny (model prog w) A (compareOp .NotEq (.ref a) (.ref b)) Q E s :=
  ne_intsK hl hi hl' hi' hu (by rw [decide_eq_true rfl]; exact h)
theorem eqInts {A : Around} {Q : Value → Shared → Prop} {E : Value → Shared → Prop} {a b : Addr} {vs us : List Value} {ns : List Int} (hl : s.heap.IsList a vs.toArray) (hi : IntsAre vs ns) (hl' : s.heap.IsList b us.toArray) (hi' : IntsAre us ns) (hu : A.units + 64 < cLine)
    (h : Q (.bool true) s) : wpAny (model prog w) A (compareOp .Eq (.ref a) (.ref b)) Q E s :=
  eq_intsK hl hi hl' hi' hu (by rw [decide_eq_true rfl]; exact h)
theorem Fr.two {g h h' : Heap} {L : Addr} {m : Str → Option Value} (F : Fr g L h m) (h30 : g.get? 30 = none) (h37 : g.get? 37 = none) (hL : (37 : Nat) < L ∧ (30 : Nat) < L) (k : ∀ b o, b ≠ 30 → b ≠ 37 → h.get? b = some o → h'.get? b = some o) : Fr g L h' m :=
  ⟨F.ns.at' fun o e => k _ o (Nat.ne_of_gt hL.2) (Nat.ne_of_gt hL.1) e, fun b o e => k b o (fun q => by rw [q, h30] at e; cases e) (fun q => by rw [q, h37] at e; cases e) (F.keep b o e), F.above⟩
theorem ne_tab {h : Heap} {a P : Addr} {vs : List Value} {e : Nat} (ha : h.get? a = some (W.listOf vs.toArray e)) (hP : h.get? P = some (tabObj #[])) : a ≠ P := by
  rintro rfl
  rw [hP] at ha
  injection ha with ha
  have := congrArg Obj.data ha
  cases this
theorem rowsL {g h : Heap} {L : Addr} {rows : List (List Bool)} {ys : List Value} (hR : All2 (RowAt g L h) rows ys) : All2 (fun r v => ∃ a, v = Value.ref a ∧ h.IsList a (r.map Value.bool).toArray) rows ys :=
  hR.mono fun r y _ hh => by obtain ⟨b, e, hm, _⟩ := hh; exact ⟨b, e, PySem.IsL.isList hm⟩
theorem rowsExt {g h h' : Heap} {L : Addr} {rows : List (List Bool)} {ys : List Value} (hR : All2 (RowAt g L h) rows ys) (x : Ext h h') : All2 (RowAt g L h') rows ys :=
  hR.mono fun r y _ hh => by obtain ⟨b, e, hm, h3⟩ := hh; exact ⟨b, e, x _ _ hm, h3⟩
variable {Q : Flow → Shared → Prop} {E : Value → Shared → Prop}
set_option maxRecDepth 100000 in
set_option maxHeartbeats 8000000 in
set_option pp.deepTerms false in
set_option pp.deepTerms.threshold 8 in
theorem segD2 {L fa D6 D4 : Addr} {ys4 vs6 : List Value} {e6 : Nat} {cd : Value} {m : Str → Option Value} {B : Int} {tB : Tok} {rows : List (List Bool)} {c0 c1 c2 c3 n1 n2 n3 n4 r4 r3 r2 r1 : Int} (K : Base w p loose mean mg mb g) (F : Fr g L s.heap m)
    (N : News g L s.heap ((D6, W.listOf vs6.toArray e6) :: (D4, LCg.lst ys4) :: [(37, tabObj #[]), (30, tabObj #[])])) (hdp : dp + 200 < recursionLimit) (hun : un + 200 < cLine) (l0 : (37 : Nat) < L ∧ (30 : Nat) < L)
    (hrl : rows.length = 4) (hr4 : ∀ r ∈ rows, r.length = 4) (hB : 256 ≤ B ∧ B < 100000000000)
    (hmc : m (Str.ofString "counts") = some (.ref D6)) (hmb : m (Str.ofString "board") = some (.ref D4)) (hmB : m (Str.ofString "base") = some (.int B tB))
    (hR : All2 (RowAt g L s.heap) rows ys4) (hI : IntsAre vs6 [c0, c1, c2, c3]) (h0 : 0 ≤ c0 ∧ c0 ≤ 4) (h1 : 0 ≤ c1 ∧ c1 ≤ 4) (h2 : 0 ≤ c2 ∧ c2 ≤ 4) (h3 : 0 ≤ c3 ∧ c3 ≤ 4)
    (S : Digs B ((B + c0) * (B + c1 - 1) * (B + c2 - 2) * (B + c3 - 3)) n1 n2 n3 n4 r4 r3 r2 r1) (hans : answer rows = [r4, r3, r2, r1, n4])
    (hnext : ∀ h' tk', Fr g L h' m → Filled h' → h'.get? D6 = some (W.listOf vs6.toArray e6) → h'.get? D4 = some (LCg.lst ys4) → All2 (RowAt g L h') rows ys4 →
      wpAny (model prog w) (AA dp un gd fr) (execs ((bodyOf lawS).drop 16) (envOfC (Str.ofString "law") (scopeOf lawS) L fa cd)) Q E { s with heap := h', toks := tk' }) :
    wpAny (model prog w) (AA dp un gd fr) (execs ((bodyOf lawS).drop 15) (envOfC (Str.ofString "law") (scopeOf lawS) L fa cd)) Q E s := by
  dsimp only [lawS, nth, bodyOf, scopeOf, PySem.Challenge.pw_qu0053_01, List.drop]
  have X := K.X
  have T := K.T
  have hI0 := hI
  clear hI
  repeat' (first | ((with_reducible show wpAny _ _ (execs (Stmt.Assign [Expr.Name (Str.ofString "refused") _] _ _ :: _) _) _ _ _); refine stop_of ?_) | ((with_reducible show wpAny _ _ (compareOp CmpOp.NotEq (Value.ref _) (Value.ref _)) _ _ _); (k_dflt (refine neInts (by assumption) (by assumption) (by assumption) (by assumption) (by show un + 64 < _; omega) ?_))) | ((with_reducible show wpAny _ _ (eval (PySem.Expr.Name _ _) _) _ _ _); (k_dflt (refine nameX_L (by assumption) (by assumption) ?_))) | ((with_reducible show wpAny _ _ (call (Value.ref _) _) _ _ _); (refine stop_of ?_)) | walk1 | (dsimp only; walk1) | fail "no step")
  refine ⟨?_⟩
  refine product_spec (K.X.keeps F.keep) (K.T.keeps F.keep) (by omega) (by omega) (PySem.IsL.isList (N.get (.head _))) hI0 (by omega) h0 h1 h2 h3 ?_
  intro g1 tk1 t1 hx1
  have F1 := Ext.fr hx1 F
  have N1 := Ext.news hx1 N
  have hR1 := rowsExt hR hx1
  have g30 := N1.get (a := 30) (by k_mem)
  have g37 := N1.get (a := 37) (by k_mem)
  have gD6 := N1.get (a := D6) (by k_mem)
  have gD4 := N1.get (a := D4) (by k_mem)
  clear F N N1 hR hx1
  repeat' (first | ((with_reducible show wpAny _ _ (execs (Stmt.Assign [Expr.Name (Str.ofString "refused") _] _ _ :: _) _) _ _ _); refine stop_of ?_) | ((with_reducible show wpAny _ _ (compareOp CmpOp.NotEq (Value.ref _) (Value.ref _)) _ _ _); (k_dflt (refine neInts (by assumption) (by assumption) (by assumption) (by assumption) (by show un + 64 < _; omega) ?_))) | ((with_reducible show wpAny _ _ (eval (PySem.Expr.Name _ _) _) _ _ _); (k_dflt (refine nameX_L (by assumption) (by assumption) ?_))) | ((with_reducible show wpAny _ _ (call (Value.ref _) _) _ _ _); (refine stop_of ?_)) | walk1 | (dsimp only; walk1) | fail "no step")
  refine ⟨?_⟩
  refine rests_new K F1.keep (by omega) (by omega) g30 g37 S ?_
  intro g2 tk2 r vs e hkeep hfill hr hg hIr
  have hkeep : ∀ b o, b ≠ 30 → b ≠ 37 → g1.get? b = some o → g2.get? b = some o := hkeep
  have F2 := Fr.two F1 K.h30 K.h37 l0 hkeep
  have gD6' := hkeep _ _ (ne_tab gD6 g30) (ne_tab gD6 g37) gD6
  have gD4' := hkeep _ _ (ne_tab gD4 g30) (ne_tab gD4 g37) gD4
  have hR2 : All2 (RowAt g L g2) rows ys4 := hR1.mono fun r y _ hh => by
    obtain ⟨b, e, hm, h3⟩ := hh
    exact ⟨b, e, hkeep _ _ (ne_tab hm g30) (ne_tab hm g37) hm, h3⟩
  have X2 := K.X.keeps F2.keep
  have T2 := K.T.keeps F2.keep
  clear F1 hR1 gD6 gD4 g30 g37 hkeep
  repeat' (first | ((with_reducible show wpAny _ _ (execs (Stmt.Assign [Expr.Name (Str.ofString "refused") _] _ _ :: _) _) _ _ _); refine stop_of ?_) | ((with_reducible show wpAny _ _ (compareOp CmpOp.NotEq (Value.ref _) (Value.ref _)) _ _ _); (k_dflt (refine neInts (by assumption) (by assumption) (by assumption) (by assumption) (by show un + 64 < _; omega) ?_))) | ((with_reducible show wpAny _ _ (eval (PySem.Expr.Name _ _) _) _ _ _); (k_dflt (refine nameX_L (by assumption) (by assumption) ?_))) | ((with_reducible show wpAny _ _ (call (Value.ref _) _) _ _ _); (refine stop_of ?_)) | walk1 | (dsimp only; walk1) | fail "no step")
  refine ⟨?_⟩
  refine ways_spec X2 T2 (by omega) (by omega) (PySem.IsL.isList gD4') (rowsL hR2) (by omega) hr4 ?_
  intro g3 tk3 r3 vs3 e3 hx3 hr3 hg3 hI3
  rw [hans] at hI3
  have F3 := Ext.fr hx3 F2
  have hl3 : g3.IsList r3 vs3.toArray := PySem.IsL.isList hg3
  have hl2 : g3.IsList r vs.toArray := PySem.IsL.isList (hx3 _ _ hg)
  have hn := hnext g3
  clear hnext F2 X2 T2
  have hR3 := rowsExt hR2 hx3
  have hfill3 := hfill.keeps hx3
  have gD6' := hx3 _ _ gD6'
  have gD4' := hx3 _ _ gD4'
  clear hR2 hfill
  refine neInts hl2 hIr hl3 hI3 (by show un + 64 < _; omega) ?_
  repeat' (first | ((with_reducible show wpAny _ _ (execs (Stmt.Assign [Expr.Name (Str.ofString "refused") _] _ _ :: _) _) _ _ _); refine stop_of ?_) | ((with_reducible show wpAny _ _ (compareOp CmpOp.NotEq (Value.ref _) (Value.ref _)) _ _ _); (k_dflt (refine neInts (by assumption) (by assumption) (by assumption) (by assumption) (by show un + 64 < _; omega) ?_))) | ((with_reducible show wpAny _ _ (eval (PySem.Expr.Name _ _) _) _ _ _); (k_dflt (refine nameX_L (by assumption) (by assumption) ?_))) | ((with_reducible show wpAny _ _ (call (Value.ref _) _) _ _ _); (refine stop_of ?_)) | walk1 | (dsimp only; walk1) | fail "no step")
  refine ⟨?_⟩
  exact hn _ F3 hfill3 gD6' gD4' hR3
end Mine
end PartSD2

section PartSD3
open PySem PySem.W PyProof.Rows PySem.Calls
namespace Mine
theorem offSD3 : True := by w_top off; trivial
variable {prog : Program} {w : World} {dp un : Nat} {gd : Option (List Code)} {fr : Option (List Env)} {s : Shared} {p : Program} {loose : List Str} {mean : ExcName → Option Value} {mg mb : Str → Option Value} {g : Heap} {Q : Flow → Shared → Prop} {E : Value → Shared → Prop}
theorem Filled.but {h h' : Heap} {L : Addr} {m : Str → Option Value} (x : Filled h) (hn : h.Ns L m) (hL : (37 : Nat) < L ∧ (30 : Nat) < L) (k : ∀ b o, b ≠ L → h.get? b = some o → h'.get? b = some o) : Filled h' := by
  obtain ⟨o, es, ep, ho, hd, _⟩ := hn
  have hna : ∀ vs, o.data ≠ .fields vs := fun vs q => by rw [hd] at q; cases q
  obtain ⟨⟨c, a1, a2, a3, a4⟩, ⟨d, b1, b2, b3, b4⟩⟩ := x
  exact ⟨⟨c, k _ _ (Nat.ne_of_lt hL.2) a1, a2, a3, a4.keepsBut k ho hna⟩, ⟨d, k _ _ (Nat.ne_of_lt hL.1) b1, b2, b3, b4.keepsBut k ho hna⟩⟩
theorem All2.bools : ∀ r : List Bool, All2 (fun b v => v = Value.bool b) r (r.map Value.bool)
  | [] => .nil
  | b :: r => .cons rfl (All2.bools r)
theorem All2.mapL {α β γ : Type} {f : α → β} {R : β → γ → Prop} : ∀ {as : List α} {bs : List γ}, All2 (fun a b => R (f a) b) as bs → All2 R (as.map f) bs
  | _, _, .nil => .nil
  | _, _, .cons x r => .cons x (All2.mapL r)
set_option maxRecDepth 100000 in
set_option maxHeartbeats 8000000 in
set_option pp.deepTerms false in
set_option pp.deepTerms.threshold 8 in
theorem segD3 {L fa D6 D4 : Addr} {ys4 vs6 : List Value} {e6 : Nat} {cd : Value} {m : Str → Option Value} {B : Int} {tB : Tok} {rows : List (List Bool)} (K : Base w p loose mean mg mb g) (F : Fr g L s.heap m)
    (hdp : dp + 200 < recursionLimit) (hun : un + 200 < cLine) (l0 : (37 : Nat) < L ∧ (30 : Nat) < L)
    (hrl : rows.length = 4) (hr4 : ∀ r ∈ rows, r.length = 4) (gD6 : s.heap.get? D6 = some (W.listOf vs6.toArray e6)) (hD6 : D6 ≠ L) (gD4 : s.heap.get? D4 = some (LCg.lst ys4)) (hfill : Filled s.heap)
    (hmc : m (Str.ofString "counts") = some (.ref D6)) (hmb : m (Str.ofString "board") = some (.ref D4)) (hmB : m (Str.ofString "base") = some (.int B tB))
    (hR : All2 (RowAt g L s.heap) rows ys4)
    (hnext : ∀ h' tk' D7 ys7 m', Fr g L h' m' → Filled h' → h'.get? D6 = some (W.listOf vs6.toArray e6) → h'.get? D7 = some (LCg.lst ys7) → All2 (RowAt g L h') (rows.map fun r => r.map (! ·)) ys7 →
      m' (Str.ofString "counts") = some (.ref D6) → m' (Str.ofString "refused") = some (.ref D7) → m' (Str.ofString "base") = some (.int B tB) →
      wpAny (model prog w) (AA dp un gd fr) (execs ((bodyOf lawS).drop 17) (envOfC (Str.ofString "law") (scopeOf lawS) L fa cd)) Q E { s with heap := h', toks := tk' }) :
    wpAny (model prog w) (AA dp un gd fr) (execs ((bodyOf lawS).drop 16) (envOfC (Str.ofString "law") (scopeOf lawS) L fa cd)) Q E s := by
  dsimp only [lawS, nth, bodyOf, scopeOf, PySem.Challenge.pw_qu0053_01, List.drop]
  have X := K.X
  have T := K.T
  repeat' (first | ((with_reducible show wpAny _ _ (eval (PySem.Expr.Name _ _) _) _ _ _); (k_dflt (first | refine nameX_L (by assumption) (by assumption) ?_ | refine nameCL (by assumption) (by assumption) ?_ | refine nameCC (by assumption) (by assumption) rfl ?_))) | ((with_reducible show wpAny _ _ (exec (Stmt.Assign _ (PySem.Expr.ListComp _ _ _ _) _) _) _ _ _); (refine stop_of ?_)) | ((with_reducible show wpAny _ _ (eval (PySem.Expr.ListComp _ _ _ _) _) _ _ _); (refine stop_of ?_)) | walk1 | (dsimp only; walk1) | fail "no step")
  refine ⟨?_⟩
  refine comp_A (α := List Bool) (fun r y nw => ∃ a, y = Value.ref a ∧ (a, LCg.lst ((r.map (! ·)).map Value.bool)) ∈ nw) (fun _ _ _ _ h hl => by obtain ⟨a, h1, h2⟩ := h; exact ⟨a, h1, hl _ h2⟩) ?_
  repeat' (first | ((with_reducible show wpAny _ _ (eval (PySem.Expr.Name _ _) _) _ _ _); (k_dflt (first | refine nameX_L (by assumption) (by assumption) ?_ | refine nameCL (by assumption) (by assumption) ?_ | refine nameCC (by assumption) (by assumption) rfl ?_))) | ((with_reducible show wpAny _ _ (exec (Stmt.Assign _ (PySem.Expr.ListComp _ _ _ _) _) _) _ _ _); (refine stop_of ?_)) | ((with_reducible show wpAny _ _ (eval (PySem.Expr.ListComp _ _ _ _) _) _ _ _); (refine stop_of ?_)) | walk1 | (dsimp only; walk1) | fail "no step")
  have hl4 := All2.length hR
  refine ⟨⟨rows, _, _, .list (PySem.IsL.isList gD4) hR (by rw [sizeLine_eq]; omega), ?turn1, F.ns, ?fin1⟩⟩
  case turn1 =>
    intro r v C m2 nw H tk E2 hk hRv hx F3 N3
    obtain ⟨a, rfl, ha, _, _⟩ := hRv
    have hal : H.IsList a (r.map Value.bool).toArray := PySem.IsL.isList (F3.keep _ _ ha)
    have hr := hr4 r hk
    clear hnext hR
    repeat' (first | ((with_reducible show wpAny _ _ (eval (PySem.Expr.Name _ _) _) _ _ _); (k_dflt (first | refine nameX_L (by assumption) (by assumption) ?_ | refine nameCL (by assumption) (by assumption) ?_ | refine nameCC (by assumption) (by assumption) rfl ?_))) | ((with_reducible show wpAny _ _ (exec (Stmt.Assign _ (PySem.Expr.ListComp _ _ _ _) _) _) _ _ _); (refine stop_of ?_)) | ((with_reducible show wpAny _ _ (eval (PySem.Expr.ListComp _ _ _ _) _) _ _ _); (refine stop_of ?_)) | walk1 | (dsimp only; walk1) | fail "no step")
    refine ⟨?_⟩
    refine comp_E (α := Bool) (fun b y _ => y = Value.bool (!b)) (fun _ _ _ _ h _ => h) ?_
    repeat' (first | ((with_reducible show wpAny _ _ (eval (PySem.Expr.Name _ _) _) _ _ _); (k_dflt (first | refine nameX_L (by assumption) (by assumption) ?_ | refine nameCL (by assumption) (by assumption) ?_ | refine nameCC (by assumption) (by assumption) rfl ?_))) | ((with_reducible show wpAny _ _ (exec (Stmt.Assign _ (PySem.Expr.ListComp _ _ _ _) _) _) _ _ _); (refine stop_of ?_)) | ((with_reducible show wpAny _ _ (eval (PySem.Expr.ListComp _ _ _ _) _) _ _ _); (refine stop_of ?_)) | walk1 | (dsimp only; walk1) | fail "no step")
    refine ⟨⟨r, _, .list hal (All2.bools r) (by rw [sizeLine_eq, List.length_map]; omega), ?turn2, ?fin2⟩⟩
    case turn2 =>
      intro b v C2 m3 nw2 H2 tk2 E3 hk2 hR2 hx F5 N5
      subst hR2
      repeat' (first | ((with_reducible show wpAny _ _ (eval (PySem.Expr.Name _ _) _) _ _ _); (k_dflt (first | refine nameX_L (by assumption) (by assumption) ?_ | refine nameCL (by assumption) (by assumption) ?_ | refine nameCC (by assumption) (by assumption) rfl ?_))) | ((with_reducible show wpAny _ _ (exec (Stmt.Assign _ (PySem.Expr.ListComp _ _ _ _) _) _) _ _ _); (refine stop_of ?_)) | ((with_reducible show wpAny _ _ (eval (PySem.Expr.ListComp _ _ _ _) _) _ _ _); (refine stop_of ?_)) | walk1 | (dsimp only; walk1) | fail "no step")
      exact ⟨⟨_, _, [], rfl, F5, N5, fun _ h => (nomatch h), rfl⟩⟩
    case fin2 =>
      intro D5 h5 tk5 ys5 nw5 hx5 hM5 hD5 hall5
      have F5 := Ext.fr hx5 F3
      have N5 := Ext.news hx5 N3
      have hf5 := (hM5 _ (.head _)).2
      have e5 := All2.map_eq hall5
      have e6 : ys5 = (r.map (! ·)).map Value.bool := by rw [e5, List.map_map]; rfl
      subst e6
      exact ⟨⟨_, _, [(D5, _)], rfl, F5, Mine.News.one (hM5 _ (.head _)).1 (Mine.Fr.fresh F3 hf5) N5, (by
        intro p hp q hq; simp only [List.mem_cons, List.not_mem_nil, or_false] at hp; subst hp; exact ne_all N3 hf5 q hq), _, rfl, .head _⟩⟩
  case fin1 =>
    intro D7 h1 tk1 ys7 nw1 hN hkeep hM1 hD1 hall1
    obtain ⟨F3, _⟩ := finA_of F News.nil hN hkeep hM1
    refine hnext _ _ D7 ys7 _ F3 (hfill.but F.ns l0 hkeep) (hkeep _ _ hD6 gD6) (hM1 _ (.head _)).1 (All2.mapL (hall1.mono fun r y _ h => ?_)) hmc rfl hmB
    obtain ⟨a, rfl, ha⟩ := h
    have hh := hM1 _ (.tail _ ha)
    have hf := Mine.Fr.fresh F hh.2
    exact ⟨a, rfl, hh.1, hf.2, hf.1⟩
end Mine
end PartSD3

section PartSD4
open PySem PySem.W PyProof.Rows PySem.Calls
namespace Mine
theorem offSD4 : True := by w_top off; trivial
local macro_rules | `(tactic| walk_at "pad SD4") => `(tactic| skip)
variable {prog : Program} {w : World} {dp un : Nat} {gd : Option (List Code)} {fr : Option (List Env)} {s : Shared} {p : Program} {loose : List Str} {mean : ExcName → Option Value} {mg mb : Str → Option Value} {g : Heap} {Q : Flow → Shared → Prop} {E : Value → Shared → Prop}
set_option maxRecDepth 100000 in
set_option maxHeartbeats 8000000 in
set_option pp.deepTerms false in
set_option pp.deepTerms.threshold 8 in
theorem segD4 {L fa D6 D7 : Addr} {ys7 vs6 : List Value} {e6 : Nat} {cd : Value} {m : Str → Option Value} {B : Int} {tB : Tok} {rows : List (List Bool)} {c0 c1 c2 c3 n1 n2 n3 n4 r4 r3 r2 r1 : Int} (K : Base w p loose mean mg mb g) (F : Fr g L s.heap m)
    (hdp : dp + 200 < recursionLimit) (hun : un + 200 < cLine)
    (hrl : rows.length = 4) (hr4 : ∀ r ∈ rows, r.length = 4) (hB : 256 ≤ B ∧ B < 100000000000) (gD6 : s.heap.get? D6 = some (W.listOf vs6.toArray e6)) (gD7 : s.heap.get? D7 = some (LCg.lst ys7)) (hfill : Filled s.heap)
    (hmc : m (Str.ofString "counts") = some (.ref D6)) (hmr : m (Str.ofString "refused") = some (.ref D7)) (hmB : m (Str.ofString "base") = some (.int B tB))
    (hR : All2 (RowAt g L s.heap) rows ys7) (hI : IntsAre vs6 [c0, c1, c2, c3]) (h0 : 0 ≤ c0 ∧ c0 ≤ 4) (h1 : 0 ≤ c1 ∧ c1 ≤ 4) (h2 : 0 ≤ c2 ∧ c2 ≤ 4) (h3 : 0 ≤ c3 ∧ c3 ≤ 4)
    (S : Digs B ((-B - 1 + c0) * (-B - 1 + c1 - 1) * (-B - 1 + c2 - 2) * (-B - 1 + c3 - 3)) n1 n2 n3 n4 r4 r3 r2 r1) (hans : answer rows = [r4, r3, r2, r1, n4])
    (hfin : ∀ h' tk', Fr g L h' m → Filled h' → Q (.ret (.bool true)) { s with heap := h', toks := tk' }) :
    wpAny (model prog w) (AA dp un gd fr) (execs ((bodyOf lawS).drop 17) (envOfC (Str.ofString "law") (scopeOf lawS) L fa cd)) Q E s := by
  dsimp only [lawS, nth, bodyOf, scopeOf, PySem.Challenge.pw_qu0053_01, List.drop]
  have X := K.X
  have T := K.T
  have hI0 := hI
  clear hI
  repeat' (first | ((with_reducible show wpAny _ _ (eval (PySem.Expr.Name _ _) _) _ _ _); (k_dflt (refine nameX_L (by assumption) (by assumption) ?_))) | ((with_reducible show wpAny _ _ (call (Value.ref _) _) _ _ _); (refine stop_of ?_)) | walk1 | (dsimp only; walk1) | fail "no step")
  refine ⟨?_⟩
  refine product_spec (K.X.keeps F.keep) (K.T.keeps F.keep) (by omega) (by omega) (PySem.IsL.isList gD6) hI0 (by omega) h0 h1 h2 h3 ?_
  intro g1 tk1 t1 hx1
  have F1 := Ext.fr hx1 F
  have hR1 := rowsExt hR hx1
  have gD7 := hx1 _ _ gD7
  have hfill := hfill.keeps hx1
  clear F gD6 hR hx1
  repeat' (first | ((with_reducible show wpAny _ _ (eval (PySem.Expr.Name _ _) _) _ _ _); (k_dflt (refine nameX_L (by assumption) (by assumption) ?_))) | ((with_reducible show wpAny _ _ (call (Value.ref _) _) _ _ _); (refine stop_of ?_)) | walk1 | (dsimp only; walk1) | fail "no step")
  refine ⟨?_⟩
  refine rests_neg K F1.keep (by omega) (by omega) hfill S ?_
  intro g2 tk2 r vs e hx2 hr hg hIr
  have F2 := Ext.fr hx2 F1
  have gD7 := hx2 _ _ gD7
  have hR2 := rowsExt hR1 hx2
  have hfill := hfill.keeps hx2
  have X2 := K.X.keeps F2.keep
  have T2 := K.T.keeps F2.keep
  clear F1 hR1 hx2
  repeat' (first | ((with_reducible show wpAny _ _ (eval (PySem.Expr.Name _ _) _) _ _ _); (k_dflt (refine nameX_L (by assumption) (by assumption) ?_))) | ((with_reducible show wpAny _ _ (call (Value.ref _) _) _ _ _); (refine stop_of ?_)) | walk1 | (dsimp only; walk1) | fail "no step")
  refine ⟨?_⟩
  refine ways_spec X2 T2 (by omega) (by omega) (PySem.IsL.isList gD7) (rowsL hR2) (by omega) hr4 ?_
  intro g3 tk3 r3 vs3 e3 hx3 hr3 hg3 hI3
  rw [hans] at hI3
  have F3 := Ext.fr hx3 F2
  have hl3 : g3.IsList r3 vs3.toArray := PySem.IsL.isList hg3
  have hl2 : g3.IsList r vs.toArray := PySem.IsL.isList (hx3 _ _ hg)
  have hn := hfin g3
  clear hfin F2 X2 T2
  have hfill := hfill.keeps hx3
  refine eqInts hl2 hIr hl3 hI3 (by show un + 64 < _; omega) ?_
  repeat' (first | ((with_reducible show wpAny _ _ (eval (PySem.Expr.Name _ _) _) _ _ _); (k_dflt (refine nameX_L (by assumption) (by assumption) ?_))) | ((with_reducible show wpAny _ _ (call (Value.ref _) _) _ _ _); (refine stop_of ?_)) | walk1 | (dsimp only; walk1) | fail "no step")
  exact hn _ F3 hfill
end Mine
end PartSD4

section PartSE
open PySem PySem.W PyProof.Rows PySem.Calls
namespace Mine
variable {prog : Program} {w : World} {dp un : Nat} {gd : Option (List Code)} {fr : Option (List Env)} {s : Shared} {p : Program} {loose : List Str} {mean : ExcName → Option Value} {mg mb : Str → Option Value} {g : Heap} {Q : Flow → Shared → Prop} {E : Value → Shared → Prop}
theorem tk_chain : ∀ c ∈ ([0, 1, 2, 3] : List Int), ∀ a ∈ [0, 1, 2, 3], ∀ b ∈ [0, 1, 2, 3], (∀ k ∈ [0, 1, 2, 3, 4, 5], tkAt c a ((k : Nat) : Int) = true → tkAt c b ((k : Nat) : Int) = true) ∨ (∀ k ∈ [0, 1, 2, 3, 4, 5], tkAt c b ((k : Nat) : Int) = true → tkAt c a ((k : Nat) : Int) = true) := by decide +kernel
theorem sub_map {ks : List Int} {f h : Int → Bool} (hf : ∀ k ∈ ks, f k = true → h k = true) : sub4 (ks.map f) (ks.map h) := by
  intro j _ e
  rw [List.getD_eq_getElem?_getD, List.getElem?_map] at e ⊢
  cases q : ks[j]? with
  | none => rw [q] at e; cases e
  | some k => rw [q] at e; exact hf k (List.mem_of_getElem? q) e
theorem rows_chain {c : Int} {ks : List Int} (hc : c ∈ ([0, 1, 2, 3] : List Int)) (hk6 : ∀ k ∈ ks, 0 ≤ k ∧ k < 6) (n n' : Int) : sub4 (rowOf c ks n) (rowOf c ks n') ∨ sub4 (rowOf c ks n') (rowOf c ks n) := by
  obtain ⟨a, ha, ea⟩ := fm4 n
  obtain ⟨b, hb, eb⟩ := fm4 n'
  have ea : (n.fmod 4).toNat = a := by omega
  have eb : (n'.fmod 4).toNat = b := by omega
  unfold rowOf
  rw [ea, eb]
  have hk : ∀ k ∈ ks, ∃ j ∈ [0, 1, 2, 3, 4, 5], k = ((j : Nat) : Int) := fun k h => six (hk6 k h)
  rcases tk_chain c hc a ha b hb with h | h
  · refine .inl (sub_map fun k hkk e => ?_)
    obtain ⟨j, hj, rfl⟩ := hk k hkk
    exact h j hj e
  · refine .inr (sub_map fun k hkk e => ?_)
    obtain ⟨j, hj, rfl⟩ := hk k hkk
    exact h j hj e
set_option maxRecDepth 100000 in
set_option maxHeartbeats 8000000 in
theorem law_body {L fa ax : Addr} {cd : Value} {m : Str → Option Value} {vs : List Value} {ns : List Int} {o1 o2 o3 o4 o5 o6 o7 o8 : Obj} (K : Base w p loose mean mg mb g) (F : Fr g L s.heap m) (N : News g L s.heap (cells8 L o1 o2 o3 o4 o5 o6 o7 o8 (tabObj #[]) (tabObj #[])))
    (hdp : dp + 200 < recursionLimit) (hun : un + 200 < cLine)
    (d1 : o1.data = .cell (some (.ref ax))) (d2 : o2.data = .cell none) (d3 : o3.data = .cell none) (d4 : o4.data = .cell none) (d5 : o5.data = .cell none) (d6 : o6.data = .cell none) (d7 : o7.data = .cell none) (d8 : o8.data = .cell none)
    (l0 : (37 : Nat) < L ∧ (30 : Nat) < L) (lifted : g.IsList ax vs.toArray) (hI : IntsAre vs ns) (hns : ns.length ≤ 63)
    (hfin : ∀ h' tk' m', Fr g L h' m' → Filled h' → Q (.ret (.bool true)) { s with heap := h', toks := tk' }) :
    wpAny (model prog w) (AA dp un gd fr) (execs (bodyOf lawS) (envOfC (Str.ofString "law") (scopeOf lawS) L fa cd)) Q E s := by
  refine segA K F N hun d1 d2 l0 lifted hI hns ?_
  intro hA tkA mA o2' Dn ys n0 n1 n2 n3 n4 n5 n6 n7 FA NA hDn hmA hIA hbA
  refine segB K FA NA hun d3 d4 d5 l0 hDn hmA hIA hbA ?_
  intro hB tkB mB o3' o4' o5' Dt vt e i c B ts tc tB hi hc hBB FB NB hDt hmn hmB d3' d4' d5' hIt
  refine segN K FB NB hun d6 l0 hDt (by simpa only [cells8, List.forall_mem_cons] using hDn) ?_
  intro hN tkN o6' Dd oD kvs FN NN hDd d6' hdict hvals
  refine segC1 K FN NN hun hi d5' d6' d7 d8 l0 hDd (by simpa only [cells8, List.forall_mem_cons] using hDt) (by simpa only [cells8, List.forall_mem_cons] using hDn) hmn hIA hIt hdict hvals ?_
  intro hC1 tkC1 D1 D2 ys1 ys2 o7' o8' FC1 NC1 d7' d8' hI1 hops
  refine segC2 K FC1 NC1 hdp hun hi hc d3' d4' hmn hmB hIA ?_
  intro hC2 tkC2 D3 ys3 mC2 FC2 NC2 hmP hmn2 hmB2 hpats
  have hk6 : ∀ k ∈ [n4.fmod 6, n5.fmod 6, n6.fmod 6, n7.fmod 6], 0 ≤ k ∧ k < 6 := by
    intro k hk
    simp only [List.mem_cons, List.not_mem_nil, or_false] at hk
    rcases hk with rfl | rfl | rfl | rfl <;> exact ⟨Int.fmod_nonneg_of_pos _ (by decide), Int.fmod_lt_of_pos _ (by decide)⟩
  have hkl : [n4.fmod 6, n5.fmod 6, n6.fmod 6, n7.fmod 6].length = 4 := rfl
  generalize [n4.fmod 6, n5.fmod 6, n6.fmod 6, n7.fmod 6] = ks at *
  refine segC3 K FC2 NC2 hdp hun hc d4' d7' hI1 hkl hmP hmn2 hmB2 hIA ?_
  intro hC3 tkC3 D4 ys4 mC3 FC3 NC3 hmb3 hmP3 hmB3 hall4
  refine segC4 K FC3 NC3 hdp hun hi hc d8' hkl hk6 hops hpats hmb3 hmP3 hmB3 hall4 ?_
  intro hC4 tkC4 D5 ys5 mC4 FC4 NC4 hmS hmb4 hmB4 hb4 hb5
  have hrl : ([n0, n1, n2, n3].map (rowOf c ks)).length = 4 := rfl
  have hr4 : ∀ r ∈ [n0, n1, n2, n3].map (rowOf c ks), r.length = 4 := by
    intro r hr
    obtain ⟨n, _, rfl⟩ := List.mem_map.mp hr
    rw [rowOf, List.length_map]; exact hkl
  have hch : ∀ a ∈ [n0, n1, n2, n3].map (rowOf c ks), ∀ b ∈ [n0, n1, n2, n3].map (rowOf c ks), sub4 a b ∨ sub4 b a := by
    intro a ha b hb
    obtain ⟨n, _, rfl⟩ := List.mem_map.mp ha
    obtain ⟨n', _, rfl⟩ := List.mem_map.mp hb
    exact rows_chain hc hk6 n n'
  have hb4 : All2 (RowAt g L hC4) ([n0, n1, n2, n3].map (rowOf c ks)) ys4 := All2.mapL hb4
  have hb5 : All2 (RowAt g L hC4) ([n0, n1, n2, n3].map (rowOf c ks)) ys5 := All2.mapL hb5
  generalize [n0, n1, n2, n3].map (rowOf c ks) = rows at *
  refine segD1 K FC4 NC4 hdp hun hrl hr4 hmS hmb4 hmB4 hb4 hb5 ?_
  intro hD1 tkD1 D6 vs6 e6 cs mD1 FD1 ND1 hmc hmb5 hmB5 hR1 hIc hperm hpw
  have hcl : cs.length = 4 := by rw [hperm.length_eq, List.length_map]; exact hrl
  have hcr : ∀ x ∈ cs, 0 ≤ x ∧ x ≤ 4 := by
    intro x hx
    obtain ⟨r, _, rfl⟩ := List.mem_map.mp (hperm.mem_iff.mp hx)
    exact cnt_range r
  match cs, hcl, hcr, hIc, hperm, hpw with
  | [c0, c1, c2, c3], _, hcr, hIc, hperm, hpw =>
    have b0 := hcr c0 (by simp)
    have b1 := hcr c1 (by simp)
    have b2 := hcr c2 (by simp)
    have b3 := hcr c3 (by simp)
    obtain ⟨u1, u2, u3, u4, v4, v3, v2, v1, S1, a1⟩ := law_rooks hrl hch hperm hpw hBB
    obtain ⟨x1, x2, x3, x4, y4, y3, y2, y1, S2, a2⟩ := law_chow hrl hr4 hch hperm hpw hBB
    refine segD2 K FD1 ND1 hdp hun l0 hrl hr4 hBB hmc hmb5 hmB5 hR1 hIc b0 b1 b2 b3 S1 a1 ?_
    intro hD2 tkD2 FD2 fill2 g6 g4 hR2
    refine segD3 K FD2 hdp hun l0 hrl hr4 g6 (ND1 _ (.head _)).2.1 g4 fill2 hmc hmb5 hmB5 hR2 ?_
    intro hD3 tkD3 D7 ys7 mD3 FD3 fill3 g6' g7 hR3 hmc3 hmr hmB3'
    refine segD4 K FD3 hdp hun (by rw [List.length_map]; exact hrl) ?_ hBB g6' g7 fill3 hmc3 hmr hmB3' hR3 hIc b0 b1 b2 b3 S2 a2 ?_
    · intro r hr
      obtain ⟨r', hr', rfl⟩ := List.mem_map.mp hr
      rw [List.length_map]; exact hr4 r' hr'
    · intro h' tk' F' fill'
      exact hfin h' tk' _ F' fill'
end Mine
end PartSE

section PartG3
open PySem PySem.W PyProof.Rows PySem.Calls
namespace Mine
theorem offG3 : True := by w_top off; trivial
set_option maxRecDepth 100000 in
set_option maxHeartbeats 8000000 in
set_option pp.deepTerms false in
set_option pp.deepTerms.threshold 8 in
theorem law' : rr.Holds := by
  w_on
  conv => arg 1; whnf
  conv => arg 1; arg 1; whnf
  o_law
  o_head (kmHook KK [nat_lit 2, nat_lit 3, nat_lit 6, nat_lit 15, nat_lit 17, nat_lit 18, nat_lit 20, nat_lit 21, nat_lit 22, nat_lit 24, nat_lit 25, nat_lit 27, nat_lit 28, nat_lit 29, nat_lit 31, nat_lit 32, nat_lit 34, nat_lit 35, nat_lit 36, nat_lit 38, nat_lit 39, nat_lit 41, nat_lit 42, nat_lit 43, nat_lit 45, nat_lit 46, nat_lit 48, nat_lit 49, nat_lit 50, nat_lit 52, nat_lit 53, nat_lit 55, nat_lit 56, nat_lit 57, nat_lit 59, nat_lit 60, nat_lit 62, nat_lit 63, nat_lit 64, nat_lit 67, nat_lit 69, nat_lit 70, nat_lit 72, nat_lit 73, nat_lit 74, nat_lit 76, nat_lit 77, nat_lit 79, nat_lit 80, nat_lit 81, nat_lit 84, nat_lit 85, nat_lit 86, nat_lit 88, nat_lit 89, nat_lit 91, nat_lit 92, nat_lit 93, nat_lit 95, nat_lit 96, nat_lit 98, nat_lit 99, nat_lit 100, nat_lit 103, nat_lit 104] (fun _ => by kernel_rfl) [37, 30])
  case hw => w_witness2
  k_go0
  all_goals (try k_fold)
  rename_i w s₀ s₁ mg mb G Y fa o pm cd doc ho hcd hg Xm V T B TE TW ns hs hlay0 hLay hrr hl2 as1 as2 ax vs as3 hL ra w1 r0 hI hr hcond hcond' hD h₁ tk₁ o8 o7 o6 o5 o4 o3 o2 o1 d8 d7 d6 d5 d4 d3 d2 d1 Y0 X' T' K' F' cH1 N' l0
  have hg37 : (ghostOf s₁.heap [(41, 37), (34, 30)]).get? 37 = none := hideAll_none _ (.head _)
  have hg30 : (ghostOf s₁.heap [(41, 37), (34, 30)]).get? 30 = none := hideAll_none _ (.tail _ (.head _))
  have KB : Base w _ _ _ mg mb (ghostOf s₁.heap [(41, 37), (34, 30)]) := ⟨X', T', hg30, hg37, codeHd, cH1⟩
  have hns : ns.length ≤ 63 := by omega
  have d8 : o8.data = Data.cell none := d8
  have d7 : o7.data = Data.cell none := d7
  have d6 : o6.data = Data.cell none := d6
  have d5 : o5.data = Data.cell none := d5
  have d4 : o4.data = Data.cell none := d4
  have d3 : o3.data = Data.cell none := d3
  have d2 : o2.data = Data.cell none := d2
  have d1 : o1.data = Data.cell (some (.ref ax)) := d1
  refine law_body KB F' N' (by show callerA.depth + 1 + 200 < recursionLimit; decide) (by show callerA.units + 3 + 200 < cLine; decide) d1 d2 d3 d4 d5 d6 d7 d8 l0 lifted hI hns ?_
  intro h9 tk9 m9 F9 fill9
  refine ⟨goodW_bool F9 hg (fun cls => ?_) ?_, ?_⟩
  · rfl
  · kc_post
  · obtain ⟨⟨c, ha, _⟩, ⟨d, hb, _⟩⟩ := fill9
    exact ⟨⟨_, hb⟩, ⟨_, ha⟩, trivial⟩
theorem law : PySem.Challenge.rw_qu0053_01.Holds := rr_eq ▸ law'
end Mine
end PartG3

theorem PySem.Challenge.cw_qu0053_01_holds : PySem.Challenge.rw_qu0053_01.Holds := by
  exact Mine.law
