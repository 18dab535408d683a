import PyProof.Rows.All
import Wide.All
import OpenK.AllK
import Wide.FinOn
import PySem.Challenge.RW_il0204_01
open PySem PySem.W PyProof.Rows PySem.Calls
set_option Elab.async false
set_option linter.all false
namespace Mine
section
set_option maxRecDepth 100000
set_option maxHeartbeats 8000000
noncomputable def hd.body : List Stmt := PySem.Challenge.pw_il0204_01.main.body
noncomputable def hd.fa (i : Nat) : Arguments := match hd.body[i]? with
  | some (.FunctionDef _ a _ _ _ _ _ _ _ _) => a
  | _ => ⟨[], [], none, [], [], none, []⟩
noncomputable def hd.fb (i : Nat) : List Stmt := match hd.body[i]? with
  | some (.FunctionDef _ _ b _ _ _ _ _ _ _) => b
  | _ => []
noncomputable def hd.fc (i : Nat) : Scope := match hd.body[i]? with
  | some (.FunctionDef _ _ _ _ _ _ s _ _ _) => s
  | _ => ⟨ScopeKind.function, [], false, false, []⟩
noncomputable def hd.s_195 : Str := ⟨#[(nat_lit 33)]⟩
noncomputable def hd.s_57 : Str := ⟨#[(nat_lit 68), (nat_lit 79), (nat_lit 85), (nat_lit 66), (nat_lit 76), (nat_lit 69), (nat_lit 83), (nat_lit 76), (nat_lit 65), (nat_lit 83), (nat_lit 72), (nat_lit 69), (nat_lit 81), (nat_lit 85), (nat_lit 65), (nat_lit 76)]⟩
noncomputable def hd.s_6 : Str := ⟨#[(nat_lit 95), (nat_lit 95), (nat_lit 97), (nat_lit 110), (nat_lit 110), (nat_lit 111), (nat_lit 116), (nat_lit 97), (nat_lit 116), (nat_lit 105), (nat_lit 111), (nat_lit 110), (nat_lit 115), (nat_lit 95), (nat_lit 95)]⟩
noncomputable def hd.s_166 : Str := ⟨#[(nat_lit 107), (nat_lit 122), (nat_lit 49), (nat_lit 48), (nat_lit 52), (nat_lit 56)]⟩
noncomputable def hd.s_10 : Str := ⟨#[(nat_lit 95), (nat_lit 95), (nat_lit 99), (nat_lit 97), (nat_lit 99), (nat_lit 104), (nat_lit 101), (nat_lit 100), (nat_lit 95), (nat_lit 95)]⟩
noncomputable def hd.s_136 : Str := ⟨#[(nat_lit 73), (nat_lit 83), (nat_lit 79), (nat_lit 56), (nat_lit 56), (nat_lit 53), (nat_lit 57), (nat_lit 45), (nat_lit 49), (nat_lit 54)]⟩
noncomputable def hd.s_12 : Str := ⟨#[(nat_lit 95), (nat_lit 114), (nat_lit 101), (nat_lit 112), (nat_lit 108), (nat_lit 97), (nat_lit 99), (nat_lit 101), (nat_lit 95), (nat_lit 101), (nat_lit 110), (nat_lit 99), (nat_lit 111), (nat_lit 100), (nat_lit 105), (nat_lit 110), (nat_lit 103)]⟩
noncomputable def hd.s_2 : Str := ⟨#[(nat_lit 95), (nat_lit 95), (nat_lit 100), (nat_lit 111), (nat_lit 99), (nat_lit 95), (nat_lit 95)]⟩
noncomputable def hd.s_7 : Str := ⟨#[(nat_lit 95), (nat_lit 95), (nat_lit 98), (nat_lit 117), (nat_lit 105), (nat_lit 108), (nat_lit 116), (nat_lit 105), (nat_lit 110), (nat_lit 115), (nat_lit 95), (nat_lit 95)]⟩
noncomputable def hd.s_27 : Str := ⟨#[(nat_lit 86), (nat_lit 66), (nat_lit 65), (nat_lit 82)]⟩
noncomputable def hd.s_251 : Str := ⟨#[(nat_lit 97), (nat_lit 104), (nat_lit 101), (nat_lit 97), (nat_lit 100)]⟩
noncomputable def hd.s_202 : Str := ⟨#[(nat_lit 41)]⟩
noncomputable def hd.s_198 : Str := ⟨#[(nat_lit 37), (nat_lit 61)]⟩
noncomputable def hd.s_122 : Str := ⟨#[(nat_lit 56), (nat_lit 56), (nat_lit 53), (nat_lit 57), (nat_lit 49), (nat_lit 53)]⟩
noncomputable def hd.s_48 : Str := ⟨#[(nat_lit 83), (nat_lit 76), (nat_lit 65), (nat_lit 83), (nat_lit 72), (nat_lit 69), (nat_lit 81), (nat_lit 85), (nat_lit 65), (nat_lit 76)]⟩
noncomputable def hd.s_52 : Str := ⟨#[(nat_lit 67), (nat_lit 73), (nat_lit 82), (nat_lit 67), (nat_lit 85), (nat_lit 77), (nat_lit 70), (nat_lit 76), (nat_lit 69), (nat_lit 88), (nat_lit 69), (nat_lit 81), (nat_lit 85), (nat_lit 65), (nat_lit 76)]⟩
noncomputable def hd.s_154 : Str := ⟨#[(nat_lit 116), (nat_lit 97), (nat_lit 99), (nat_lit 116), (nat_lit 105), (nat_lit 115)]⟩
noncomputable def hd.s_165 : Str := ⟨#[(nat_lit 75), (nat_lit 79), (nat_lit 73), (nat_lit 56), (nat_lit 45), (nat_lit 85)]⟩
noncomputable def hd.s_239 : Str := ⟨#[(nat_lit 126)]⟩
noncomputable def hd.s_143 : Str := ⟨#[(nat_lit 105), (nat_lit 115), (nat_lit 111), (nat_lit 56), (nat_lit 56), (nat_lit 53), (nat_lit 57), (nat_lit 95), (nat_lit 54)]⟩
noncomputable def hd.s_170 : Str := ⟨#[(nat_lit 99), (nat_lit 112), (nat_lit 49), (nat_lit 50), (nat_lit 53), (nat_lit 54)]⟩
noncomputable def hd.s_72 : Str := ⟨#[(nat_lit 95), (nat_lit 95), (nat_lit 109), (nat_lit 97), (nat_lit 105), (nat_lit 110), (nat_lit 95), (nat_lit 95)]⟩
noncomputable def hd.s_59 : Str := ⟨#[(nat_lit 65), (nat_lit 84), (nat_lit 69), (nat_lit 81), (nat_lit 85), (nat_lit 65), (nat_lit 76)]⟩
noncomputable def hd.s_254 : Str := ⟨#[(nat_lit 108), (nat_lit 101), (nat_lit 102), (nat_lit 116)]⟩
noncomputable def hd.s_266 : Str := ⟨#[(nat_lit 114), (nat_lit 101), (nat_lit 102), (nat_lit 117), (nat_lit 115), (nat_lit 101), (nat_lit 100)]⟩
noncomputable def hd.s_139 : Str := ⟨#[(nat_lit 73), (nat_lit 83), (nat_lit 79), (nat_lit 56), (nat_lit 56), (nat_lit 53), (nat_lit 57), (nat_lit 45), (nat_lit 51)]⟩
noncomputable def hd.s_74 : Str := ⟨#[(nat_lit 99), (nat_lit 111), (nat_lit 100), (nat_lit 101)]⟩
noncomputable def hd.s_191 : Str := ⟨#[(nat_lit 107), (nat_lit 111), (nat_lit 105), (nat_lit 56), (nat_lit 117)]⟩
noncomputable def hd.s_11 : Str := ⟨#[(nat_lit 95), (nat_lit 119), (nat_lit 97), (nat_lit 108), (nat_lit 108)]⟩
noncomputable def hd.s_128 : Str := ⟨#[(nat_lit 105), (nat_lit 115), (nat_lit 111), (nat_lit 56), (nat_lit 56), (nat_lit 53), (nat_lit 57), (nat_lit 95), (nat_lit 49), (nat_lit 49)]⟩
noncomputable def hd.s_255 : Str := ⟨#[(nat_lit 114), (nat_lit 105), (nat_lit 103), (nat_lit 104), (nat_lit 116)]⟩
noncomputable def hd.s_15 : Str := ⟨#[(nat_lit 108), (nat_lit 111), (nat_lit 99), (nat_lit 97), (nat_lit 108), (nat_lit 101), (nat_lit 95), (nat_lit 101), (nat_lit 110), (nat_lit 99), (nat_lit 111), (nat_lit 100), (nat_lit 105), (nat_lit 110), (nat_lit 103), (nat_lit 95), (nat_lit 97), (nat_lit 108), (nat_lit 105), (nat_lit 97), (nat_lit 115)]⟩
noncomputable def hd.s_181 : Str := ⟨#[(nat_lit 105), (nat_lit 115), (nat_lit 111), (nat_lit 56), (nat_lit 56), (nat_lit 53), (nat_lit 57), (nat_lit 50)]⟩
noncomputable def hd.s_235 : Str := ⟨#[(nat_lit 123)]⟩
noncomputable def hd.s_147 : Str := ⟨#[(nat_lit 105), (nat_lit 115), (nat_lit 111), (nat_lit 56), (nat_lit 56), (nat_lit 53), (nat_lit 57), (nat_lit 95), (nat_lit 56)]⟩
noncomputable def hd.s_32 : Str := ⟨#[(nat_lit 68), (nat_lit 79), (nat_lit 84)]⟩
noncomputable def hd.s_51 : Str := ⟨#[(nat_lit 86), (nat_lit 66), (nat_lit 65), (nat_lit 82), (nat_lit 69), (nat_lit 81), (nat_lit 85), (nat_lit 65), (nat_lit 76)]⟩
noncomputable def hd.s_163 : Str := ⟨#[(nat_lit 75), (nat_lit 79), (nat_lit 73), (nat_lit 56), (nat_lit 45), (nat_lit 84)]⟩
noncomputable def hd.s_209 : Str := ⟨#[(nat_lit 44)]⟩
noncomputable def hd.s_140 : Str := ⟨#[(nat_lit 105), (nat_lit 115), (nat_lit 111), (nat_lit 56), (nat_lit 56), (nat_lit 53), (nat_lit 57), (nat_lit 95), (nat_lit 52)]⟩
noncomputable def hd.s_230 : Str := ⟨#[(nat_lit 64), (nat_lit 61)]⟩
noncomputable def hd.s_76 : Str := ⟨#[(nat_lit 108), (nat_lit 97), (nat_lit 110), (nat_lit 103), (nat_lit 110), (nat_lit 97), (nat_lit 109), (nat_lit 101)]⟩
noncomputable def hd.s_20 : Str := ⟨#[(nat_lit 67), (nat_lit 79), (nat_lit 76), (nat_lit 79), (nat_lit 78)]⟩
noncomputable def hd.s_141 : Str := ⟨#[(nat_lit 73), (nat_lit 83), (nat_lit 79), (nat_lit 56), (nat_lit 56), (nat_lit 53), (nat_lit 57), (nat_lit 45), (nat_lit 52)]⟩
noncomputable def hd.s_219 : Str := ⟨#[(nat_lit 59)]⟩
noncomputable def hd.s_8 : Str := ⟨#[(nat_lit 95), (nat_lit 95), (nat_lit 102), (nat_lit 105), (nat_lit 108), (nat_lit 101), (nat_lit 95), (nat_lit 95)]⟩
noncomputable def hd.s_94 : Str := ⟨#[(nat_lit 64)]⟩
noncomputable def hd.s_14 : Str := ⟨#[(nat_lit 95), (nat_lit 98), (nat_lit 117), (nat_lit 105), (nat_lit 108), (nat_lit 100), (nat_lit 95), (nat_lit 108), (nat_lit 111), (nat_lit 99), (nat_lit 97), (nat_lit 108), (nat_lit 101), (nat_lit 110), (nat_lit 97), (nat_lit 109), (nat_lit 101)]⟩
noncomputable def hd.s_151 : Str := ⟨#[(nat_lit 105), (nat_lit 115), (nat_lit 111), (nat_lit 50), (nat_lit 48), (nat_lit 50), (nat_lit 50), (nat_lit 95), (nat_lit 106), (nat_lit 112)]⟩
noncomputable def hd.s_29 : Str := ⟨#[(nat_lit 76), (nat_lit 69), (nat_lit 83), (nat_lit 83)]⟩
noncomputable def hd.s_33 : Str := ⟨#[(nat_lit 80), (nat_lit 69), (nat_lit 82), (nat_lit 67), (nat_lit 69), (nat_lit 78), (nat_lit 84)]⟩
noncomputable def hd.s_13 : Str := ⟨#[(nat_lit 95), (nat_lit 97), (nat_lit 112), (nat_lit 112), (nat_lit 101), (nat_lit 110), (nat_lit 100), (nat_lit 95), (nat_lit 109), (nat_lit 111), (nat_lit 100), (nat_lit 105), (nat_lit 102), (nat_lit 105), (nat_lit 101), (nat_lit 114)]⟩
noncomputable def hd.s_215 : Str := ⟨#[(nat_lit 47), (nat_lit 47), (nat_lit 61)]⟩
noncomputable def hd.s_19 : Str := ⟨#[(nat_lit 82), (nat_lit 83), (nat_lit 81), (nat_lit 66)]⟩
noncomputable def hd.s_182 : Str := ⟨#[(nat_lit 105), (nat_lit 115), (nat_lit 111), (nat_lit 56), (nat_lit 56), (nat_lit 53), (nat_lit 57), (nat_lit 51)]⟩
noncomputable def hd.s_47 : Str := ⟨#[(nat_lit 83), (nat_lit 84), (nat_lit 65), (nat_lit 82), (nat_lit 69), (nat_lit 81), (nat_lit 85), (nat_lit 65), (nat_lit 76)]⟩
noncomputable def hd.s_103 : Str := ⟨#[(nat_lit 101), (nat_lit 110)]⟩
noncomputable def hd.s_169 : Str := ⟨#[(nat_lit 99), (nat_lit 112), (nat_lit 49), (nat_lit 50), (nat_lit 53), (nat_lit 53)]⟩
noncomputable def hd.s_227 : Str := ⟨#[(nat_lit 62), (nat_lit 61)]⟩
noncomputable def hd.s_126 : Str := ⟨#[(nat_lit 105), (nat_lit 115), (nat_lit 111), (nat_lit 56), (nat_lit 56), (nat_lit 53), (nat_lit 57), (nat_lit 95), (nat_lit 49), (nat_lit 48)]⟩
noncomputable def hd.s_193 : Str := ⟨#[(nat_lit 115), (nat_lit 104), (nat_lit 105), (nat_lit 102), (nat_lit 116), (nat_lit 106), (nat_lit 105), (nat_lit 115)]⟩
noncomputable def hd.s_225 : Str := ⟨#[(nat_lit 61), (nat_lit 61)]⟩
noncomputable def hd.s_44 : Str := ⟨#[(nat_lit 68), (nat_lit 79), (nat_lit 85), (nat_lit 66), (nat_lit 76), (nat_lit 69), (nat_lit 83), (nat_lit 84), (nat_lit 65), (nat_lit 82)]⟩
noncomputable def hd.s_41 : Str := ⟨#[(nat_lit 67), (nat_lit 73), (nat_lit 82), (nat_lit 67), (nat_lit 85), (nat_lit 77), (nat_lit 70), (nat_lit 76), (nat_lit 69), (nat_lit 88)]⟩
noncomputable def hd.s_96 : Str := ⟨#[(nat_lit 108), (nat_lit 97), (nat_lit 110), (nat_lit 103), (nat_lit 117), (nat_lit 97), (nat_lit 103), (nat_lit 101)]⟩
noncomputable def hd.s_35 : Str := ⟨#[(nat_lit 82), (nat_lit 66), (nat_lit 82), (nat_lit 65), (nat_lit 67), (nat_lit 69)]⟩
noncomputable def hd.s_213 : Str := ⟨#[(nat_lit 47)]⟩
noncomputable def hd.s_115 : Str := ⟨#[(nat_lit 109), (nat_lit 105), (nat_lit 99), (nat_lit 114), (nat_lit 111), (nat_lit 115), (nat_lit 111), (nat_lit 102), (nat_lit 116), (nat_lit 99), (nat_lit 112), (nat_lit 49), (nat_lit 50), (nat_lit 53), (nat_lit 54)]⟩
noncomputable def hd.s_146 : Str := ⟨#[(nat_lit 73), (nat_lit 83), (nat_lit 79), (nat_lit 56), (nat_lit 56), (nat_lit 53), (nat_lit 57), (nat_lit 45), (nat_lit 55)]⟩
noncomputable def hd.s_267 : Str := ⟨#[(nat_lit 116), (nat_lit 104), (nat_lit 105), (nat_lit 110), (nat_lit 103)]⟩
noncomputable def hd.s_224 : Str := ⟨#[(nat_lit 61)]⟩
noncomputable def hd.s_183 : Str := ⟨#[(nat_lit 105), (nat_lit 115), (nat_lit 111), (nat_lit 56), (nat_lit 56), (nat_lit 53), (nat_lit 57), (nat_lit 52)]⟩
noncomputable def hd.s_204 : Str := ⟨#[(nat_lit 42), (nat_lit 42)]⟩
noncomputable def hd.s_176 : Str := ⟨#[(nat_lit 105), (nat_lit 115), (nat_lit 111), (nat_lit 56), (nat_lit 56), (nat_lit 53), (nat_lit 57), (nat_lit 49), (nat_lit 49)]⟩
noncomputable def hd.s_228 : Str := ⟨#[(nat_lit 62), (nat_lit 62)]⟩
noncomputable def hd.s_149 : Str := ⟨#[(nat_lit 105), (nat_lit 115), (nat_lit 111), (nat_lit 56), (nat_lit 56), (nat_lit 53), (nat_lit 57), (nat_lit 95), (nat_lit 57)]⟩
noncomputable def hd.s_121 : Str := ⟨#[(nat_lit 73), (nat_lit 83), (nat_lit 79), (nat_lit 56), (nat_lit 56), (nat_lit 53), (nat_lit 57), (nat_lit 45), (nat_lit 53)]⟩
noncomputable def hd.s_78 : Str := ⟨#[(nat_lit 46)]⟩
noncomputable def hd.s_268 : Str := ⟨#[(nat_lit 101), (nat_lit 114), (nat_lit 114), (nat_lit 111), (nat_lit 114)]⟩
noncomputable def hd.s_116 : Str := ⟨#[(nat_lit 67), (nat_lit 80), (nat_lit 49), (nat_lit 50), (nat_lit 53), (nat_lit 54)]⟩
noncomputable def hd.s_24 : Str := ⟨#[(nat_lit 77), (nat_lit 73), (nat_lit 78), (nat_lit 85), (nat_lit 83)]⟩
noncomputable def hd.s_21 : Str := ⟨#[(nat_lit 67), (nat_lit 79), (nat_lit 77), (nat_lit 77), (nat_lit 65)]⟩
noncomputable def hd.s_53 : Str := ⟨#[(nat_lit 76), (nat_lit 69), (nat_lit 70), (nat_lit 84), (nat_lit 83), (nat_lit 72), (nat_lit 73), (nat_lit 70), (nat_lit 84), (nat_lit 69), (nat_lit 81), (nat_lit 85), (nat_lit 65), (nat_lit 76)]⟩
noncomputable def hd.s_46 : Str := ⟨#[(nat_lit 77), (nat_lit 73), (nat_lit 78), (nat_lit 69), (nat_lit 81), (nat_lit 85), (nat_lit 65), (nat_lit 76)]⟩
noncomputable def hd.s_220 : Str := ⟨#[(nat_lit 60)]⟩
noncomputable def hd.s_112 : Str := ⟨#[(nat_lit 67), (nat_lit 80), (nat_lit 49), (nat_lit 50), (nat_lit 53), (nat_lit 49)]⟩
noncomputable def hd.s_55 : Str := ⟨#[(nat_lit 68), (nat_lit 79), (nat_lit 85), (nat_lit 66), (nat_lit 76), (nat_lit 69), (nat_lit 83), (nat_lit 84), (nat_lit 65), (nat_lit 82), (nat_lit 69), (nat_lit 81), (nat_lit 85), (nat_lit 65), (nat_lit 76)]⟩
noncomputable def hd.s_177 : Str := ⟨#[(nat_lit 105), (nat_lit 115), (nat_lit 111), (nat_lit 56), (nat_lit 56), (nat_lit 53), (nat_lit 57), (nat_lit 49), (nat_lit 51)]⟩
noncomputable def hd.s_226 : Str := ⟨#[(nat_lit 62)]⟩
noncomputable def hd.s_200 : Str := ⟨#[(nat_lit 38), (nat_lit 61)]⟩
noncomputable def hd.s_120 : Str := ⟨#[(nat_lit 56), (nat_lit 56), (nat_lit 53), (nat_lit 57), (nat_lit 53)]⟩
noncomputable def hd.s_185 : Str := ⟨#[(nat_lit 105), (nat_lit 115), (nat_lit 111), (nat_lit 56), (nat_lit 56), (nat_lit 53), (nat_lit 57), (nat_lit 54)]⟩
noncomputable def hd.s_45 : Str := ⟨#[(nat_lit 80), (nat_lit 76), (nat_lit 85), (nat_lit 83), (nat_lit 69), (nat_lit 81), (nat_lit 85), (nat_lit 65), (nat_lit 76)]⟩
noncomputable def hd.s_5 : Str := ⟨#[(nat_lit 95), (nat_lit 95), (nat_lit 115), (nat_lit 112), (nat_lit 101), (nat_lit 99), (nat_lit 95), (nat_lit 95)]⟩
noncomputable def hd.s_186 : Str := ⟨#[(nat_lit 105), (nat_lit 115), (nat_lit 111), (nat_lit 56), (nat_lit 56), (nat_lit 53), (nat_lit 57), (nat_lit 55)]⟩
noncomputable def hd.s_34 : Str := ⟨#[(nat_lit 76), (nat_lit 66), (nat_lit 82), (nat_lit 65), (nat_lit 67), (nat_lit 69)]⟩
noncomputable def hd.s_119 : Str := ⟨#[(nat_lit 73), (nat_lit 83), (nat_lit 79), (nat_lit 56), (nat_lit 56), (nat_lit 53), (nat_lit 57), (nat_lit 45), (nat_lit 50)]⟩
noncomputable def hd.s_68 : Str := ⟨#[(nat_lit 95), (nat_lit 108), (nat_lit 97), (nat_lit 119), (nat_lit 95), (nat_lit 109), (nat_lit 111), (nat_lit 100), (nat_lit 105), (nat_lit 102), (nat_lit 105), (nat_lit 101), (nat_lit 100)]⟩
noncomputable def hd.s_212 : Str := ⟨#[(nat_lit 46), (nat_lit 46), (nat_lit 46)]⟩
noncomputable def hd.s_211 : Str := ⟨#[(nat_lit 45), (nat_lit 62)]⟩
noncomputable def hd.s_104 : Str := ⟨#[(nat_lit 106), (nat_lit 105), (nat_lit 115)]⟩
noncomputable def hd.s_203 : Str := ⟨#[(nat_lit 42)]⟩
noncomputable def hd.s_61 : Str := ⟨#[(nat_lit 69), (nat_lit 76), (nat_lit 76), (nat_lit 73), (nat_lit 80), (nat_lit 83), (nat_lit 73), (nat_lit 83)]⟩
noncomputable def hd.s_58 : Str := ⟨#[(nat_lit 65), (nat_lit 84)]⟩
noncomputable def hd.s_173 : Str := ⟨#[(nat_lit 105), (nat_lit 115), (nat_lit 111), (nat_lit 50), (nat_lit 48), (nat_lit 50), (nat_lit 50), (nat_lit 106), (nat_lit 112)]⟩
noncomputable def hd.s_54 : Str := ⟨#[(nat_lit 82), (nat_lit 73), (nat_lit 71), (nat_lit 72), (nat_lit 84), (nat_lit 83), (nat_lit 72), (nat_lit 73), (nat_lit 70), (nat_lit 84), (nat_lit 69), (nat_lit 81), (nat_lit 85), (nat_lit 65), (nat_lit 76)]⟩
noncomputable def hd.s_134 : Str := ⟨#[(nat_lit 105), (nat_lit 115), (nat_lit 111), (nat_lit 56), (nat_lit 56), (nat_lit 53), (nat_lit 57), (nat_lit 95), (nat_lit 49), (nat_lit 53)]⟩
noncomputable def hd.s_0 : Str := ⟨#[(nat_lit 95), (nat_lit 95), (nat_lit 110), (nat_lit 97), (nat_lit 109), (nat_lit 101), (nat_lit 95), (nat_lit 95)]⟩
noncomputable def hd.s_216 : Str := ⟨#[(nat_lit 47), (nat_lit 61)]⟩
noncomputable def hd.s_194 : Str := ⟨#[(nat_lit 117), (nat_lit 116), (nat_lit 102), (nat_lit 56)]⟩
noncomputable def hd.s_114 : Str := ⟨#[(nat_lit 67), (nat_lit 80), (nat_lit 49), (nat_lit 50), (nat_lit 53), (nat_lit 53)]⟩
noncomputable def hd.s_188 : Str := ⟨#[(nat_lit 105), (nat_lit 115), (nat_lit 111), (nat_lit 56), (nat_lit 56), (nat_lit 53), (nat_lit 57), (nat_lit 57)]⟩
noncomputable def hd.s_162 : Str := ⟨#[(nat_lit 107), (nat_lit 111), (nat_lit 105), (nat_lit 56), (nat_lit 95), (nat_lit 116)]⟩
noncomputable def hd.s_28 : Str := ⟨#[(nat_lit 65), (nat_lit 77), (nat_lit 80), (nat_lit 69), (nat_lit 82)]⟩
noncomputable def hd.s_237 : Str := ⟨#[(nat_lit 124), (nat_lit 61)]⟩
noncomputable def hd.s_236 : Str := ⟨#[(nat_lit 124)]⟩
noncomputable def hd.s_207 : Str := ⟨#[(nat_lit 43)]⟩
noncomputable def hd.s_69 : Str := ⟨#[(nat_lit 95), (nat_lit 108), (nat_lit 97), (nat_lit 119), (nat_lit 95), (nat_lit 114), (nat_lit 101), (nat_lit 102), (nat_lit 117), (nat_lit 115), (nat_lit 101), (nat_lit 100)]⟩
noncomputable def hd.s_145 : Str := ⟨#[(nat_lit 105), (nat_lit 115), (nat_lit 111), (nat_lit 56), (nat_lit 56), (nat_lit 53), (nat_lit 57), (nat_lit 95), (nat_lit 55)]⟩
noncomputable def hd.s_142 : Str := ⟨#[(nat_lit 105), (nat_lit 115), (nat_lit 111), (nat_lit 56), (nat_lit 56), (nat_lit 53), (nat_lit 57), (nat_lit 95), (nat_lit 53)]⟩
noncomputable def hd.s_63 : Str := ⟨#[(nat_lit 69), (nat_lit 88), (nat_lit 67), (nat_lit 76), (nat_lit 65), (nat_lit 77), (nat_lit 65), (nat_lit 84), (nat_lit 73), (nat_lit 79), (nat_lit 78)]⟩
noncomputable def hd.s_133 : Str := ⟨#[(nat_lit 73), (nat_lit 83), (nat_lit 79), (nat_lit 56), (nat_lit 56), (nat_lit 53), (nat_lit 57), (nat_lit 45), (nat_lit 49), (nat_lit 52)]⟩
noncomputable def hd.s_280 : Str := ⟨#[(nat_lit 118)]⟩
noncomputable def hd.s_214 : Str := ⟨#[(nat_lit 47), (nat_lit 47)]⟩
noncomputable def hd.s_3 : Str := ⟨#[(nat_lit 95), (nat_lit 95), (nat_lit 112), (nat_lit 97), (nat_lit 99), (nat_lit 107), (nat_lit 97), (nat_lit 103), (nat_lit 101), (nat_lit 95), (nat_lit 95)]⟩
noncomputable def hd.s_101 : Str := ⟨#[(nat_lit 52), (nat_lit 51), (nat_lit 55)]⟩
noncomputable def hd.s_37 : Str := ⟨#[(nat_lit 78), (nat_lit 79), (nat_lit 84), (nat_lit 69), (nat_lit 81), (nat_lit 85), (nat_lit 65), (nat_lit 76)]⟩
noncomputable def hd.s_25 : Str := ⟨#[(nat_lit 83), (nat_lit 84), (nat_lit 65), (nat_lit 82)]⟩
noncomputable def hd.s_184 : Str := ⟨#[(nat_lit 105), (nat_lit 115), (nat_lit 111), (nat_lit 56), (nat_lit 56), (nat_lit 53), (nat_lit 57), (nat_lit 53)]⟩
noncomputable def hd.s_208 : Str := ⟨#[(nat_lit 43), (nat_lit 61)]⟩
noncomputable def hd.s_157 : Str := ⟨#[(nat_lit 101), (nat_lit 117), (nat_lit 99), (nat_lit 95), (nat_lit 107), (nat_lit 114)]⟩
noncomputable def hd.s_26 : Str := ⟨#[(nat_lit 83), (nat_lit 76), (nat_lit 65), (nat_lit 83), (nat_lit 72)]⟩
noncomputable def hd.s_156 : Str := ⟨#[(nat_lit 101), (nat_lit 117), (nat_lit 99), (nat_lit 95), (nat_lit 106), (nat_lit 112)]⟩
noncomputable def hd.s_97 : Str := ⟨#[(nat_lit 67)]⟩
noncomputable def hd.s_233 : Str := ⟨#[(nat_lit 94)]⟩
noncomputable def hd.s_30 : Str := ⟨#[(nat_lit 71), (nat_lit 82), (nat_lit 69), (nat_lit 65), (nat_lit 84), (nat_lit 69), (nat_lit 82)]⟩
noncomputable def hd.s_123 : Str := ⟨#[(nat_lit 97), (nat_lit 115), (nat_lit 99), (nat_lit 105), (nat_lit 105)]⟩
noncomputable def hd.s_253 : Str := ⟨#[(nat_lit 99), (nat_lit 111), (nat_lit 117), (nat_lit 110), (nat_lit 116)]⟩
noncomputable def hd.s_110 : Str := ⟨#[(nat_lit 75), (nat_lit 79), (nat_lit 73), (nat_lit 56), (nat_lit 45), (nat_lit 67)]⟩
noncomputable def hd.s_178 : Str := ⟨#[(nat_lit 105), (nat_lit 115), (nat_lit 111), (nat_lit 56), (nat_lit 56), (nat_lit 53), (nat_lit 57), (nat_lit 49), (nat_lit 52)]⟩
noncomputable def hd.s_150 : Str := ⟨#[(nat_lit 73), (nat_lit 83), (nat_lit 79), (nat_lit 56), (nat_lit 56), (nat_lit 53), (nat_lit 57), (nat_lit 45), (nat_lit 57)]⟩
noncomputable def hd.s_201 : Str := ⟨#[(nat_lit 40)]⟩
noncomputable def hd.s_107 : Str := ⟨#[(nat_lit 97), (nat_lit 106), (nat_lit 101), (nat_lit 99)]⟩
noncomputable def hd.s_172 : Str := ⟨#[(nat_lit 101), (nat_lit 117), (nat_lit 99), (nat_lit 107), (nat_lit 114)]⟩
noncomputable def hd.s_87 : Str := ⟨#[(nat_lit 109), (nat_lit 111), (nat_lit 100), (nat_lit 105), (nat_lit 102), (nat_lit 105), (nat_lit 101), (nat_lit 114)]⟩
noncomputable def hd.s_175 : Str := ⟨#[(nat_lit 105), (nat_lit 115), (nat_lit 111), (nat_lit 56), (nat_lit 56), (nat_lit 53), (nat_lit 57), (nat_lit 49), (nat_lit 48)]⟩
noncomputable def hd.s_108 : Str := ⟨#[(nat_lit 101), (nat_lit 117), (nat_lit 99), (nat_lit 74), (nat_lit 80)]⟩
noncomputable def hd.s_180 : Str := ⟨#[(nat_lit 105), (nat_lit 115), (nat_lit 111), (nat_lit 56), (nat_lit 56), (nat_lit 53), (nat_lit 57), (nat_lit 49), (nat_lit 54)]⟩
noncomputable def hd.s_124 : Str := ⟨#[(nat_lit 108), (nat_lit 97), (nat_lit 116), (nat_lit 105), (nat_lit 110), (nat_lit 95), (nat_lit 49)]⟩
noncomputable def hd.s_22 : Str := ⟨#[(nat_lit 83), (nat_lit 69), (nat_lit 77), (nat_lit 73)]⟩
noncomputable def hd.s_109 : Str := ⟨#[(nat_lit 107), (nat_lit 111), (nat_lit 105), (nat_lit 56), (nat_lit 99)]⟩
noncomputable def hd.s_1 : Str := ⟨#[(nat_lit 108), (nat_lit 97), (nat_lit 119), (nat_lit 95), (nat_lit 105), (nat_lit 108), (nat_lit 48), (nat_lit 50), (nat_lit 48), (nat_lit 52), (nat_lit 95), (nat_lit 48), (nat_lit 49)]⟩
noncomputable def hd.s_60 : Str := ⟨#[(nat_lit 82), (nat_lit 65), (nat_lit 82), (nat_lit 82), (nat_lit 79), (nat_lit 87)]⟩
noncomputable def hd.s_238 : Str := ⟨#[(nat_lit 125)]⟩
noncomputable def hd.s_77 : Str := ⟨#[(nat_lit 110), (nat_lit 111), (nat_lit 114), (nat_lit 109), (nat_lit 95), (nat_lit 101), (nat_lit 110), (nat_lit 99), (nat_lit 111), (nat_lit 100), (nat_lit 105), (nat_lit 110), (nat_lit 103)]⟩
noncomputable def hd.s_167 : Str := ⟨#[(nat_lit 82), (nat_lit 75), (nat_lit 49), (nat_lit 48), (nat_lit 52), (nat_lit 56)]⟩
noncomputable def hd.s_64 : Str := ⟨#[(nat_lit 69), (nat_lit 88), (nat_lit 65), (nat_lit 67), (nat_lit 84), (nat_lit 95), (nat_lit 84), (nat_lit 79), (nat_lit 75), (nat_lit 69), (nat_lit 78), (nat_lit 95), (nat_lit 84), (nat_lit 89), (nat_lit 80), (nat_lit 69), (nat_lit 83)]⟩
noncomputable def hd.s_127 : Str := ⟨#[(nat_lit 73), (nat_lit 83), (nat_lit 79), (nat_lit 56), (nat_lit 56), (nat_lit 53), (nat_lit 57), (nat_lit 45), (nat_lit 49), (nat_lit 48)]⟩
noncomputable def hd.s_152 : Str := ⟨#[(nat_lit 115), (nat_lit 104), (nat_lit 105), (nat_lit 102), (nat_lit 116), (nat_lit 95), (nat_lit 106), (nat_lit 105), (nat_lit 115)]⟩
noncomputable def hd.s_40 : Str := ⟨#[(nat_lit 84), (nat_lit 73), (nat_lit 76), (nat_lit 68), (nat_lit 69)]⟩
noncomputable def hd.s_129 : Str := ⟨#[(nat_lit 73), (nat_lit 83), (nat_lit 79), (nat_lit 56), (nat_lit 56), (nat_lit 53), (nat_lit 57), (nat_lit 45), (nat_lit 49), (nat_lit 49)]⟩
noncomputable def hd.s_75 : Str := ⟨#[(nat_lit 101), (nat_lit 110), (nat_lit 99), (nat_lit 111), (nat_lit 100), (nat_lit 105), (nat_lit 110), (nat_lit 103)]⟩
noncomputable def hd.s_196 : Str := ⟨#[(nat_lit 33), (nat_lit 61)]⟩
noncomputable def hd.s_39 : Str := ⟨#[(nat_lit 71), (nat_lit 82), (nat_lit 69), (nat_lit 65), (nat_lit 84), (nat_lit 69), (nat_lit 82), (nat_lit 69), (nat_lit 81), (nat_lit 85), (nat_lit 65), (nat_lit 76)]⟩
noncomputable def hd.s_102 : Str := ⟨#[(nat_lit 99)]⟩
noncomputable def hd.s_265 : Str := ⟨#[(nat_lit 110), (nat_lit 97), (nat_lit 109), (nat_lit 101)]⟩
noncomputable def hd.s_153 : Str := ⟨#[(nat_lit 83), (nat_lit 74), (nat_lit 73), (nat_lit 83)]⟩
noncomputable def hd.s_93 : Str := ⟨#[(nat_lit 73), (nat_lit 83), (nat_lit 79), (nat_lit 56), (nat_lit 56), (nat_lit 53), (nat_lit 57), (nat_lit 45), (nat_lit 49)]⟩
noncomputable def hd.s_132 : Str := ⟨#[(nat_lit 105), (nat_lit 115), (nat_lit 111), (nat_lit 56), (nat_lit 56), (nat_lit 53), (nat_lit 57), (nat_lit 95), (nat_lit 49), (nat_lit 52)]⟩
noncomputable def hd.s_189 : Str := ⟨#[(nat_lit 107), (nat_lit 111), (nat_lit 105), (nat_lit 56), (nat_lit 114)]⟩
noncomputable def hd.s_155 : Str := ⟨#[(nat_lit 84), (nat_lit 65), (nat_lit 67), (nat_lit 84), (nat_lit 73), (nat_lit 83)]⟩
noncomputable def hd.s_125 : Str := ⟨#[(nat_lit 105), (nat_lit 115), (nat_lit 111), (nat_lit 56), (nat_lit 56), (nat_lit 53), (nat_lit 57), (nat_lit 95), (nat_lit 49)]⟩
noncomputable def hd.s_71 : Str := ⟨#[(nat_lit 60), (nat_lit 109), (nat_lit 111), (nat_lit 100), (nat_lit 117), (nat_lit 108), (nat_lit 101), (nat_lit 62)]⟩
noncomputable def hd.s_205 : Str := ⟨#[(nat_lit 42), (nat_lit 42), (nat_lit 61)]⟩
noncomputable def hd.s_229 : Str := ⟨#[(nat_lit 62), (nat_lit 62), (nat_lit 61)]⟩
noncomputable def hd.s_38 : Str := ⟨#[(nat_lit 76), (nat_lit 69), (nat_lit 83), (nat_lit 83), (nat_lit 69), (nat_lit 81), (nat_lit 85), (nat_lit 65), (nat_lit 76)]⟩
noncomputable def hd.s_250 : Str := ⟨#[(nat_lit 114), (nat_lit 117), (nat_lit 110), (nat_lit 115)]⟩
noncomputable def hd.s_70 : Str := ⟨#[(nat_lit 108), (nat_lit 97), (nat_lit 119)]⟩
noncomputable def hd.s_222 : Str := ⟨#[(nat_lit 60), (nat_lit 60), (nat_lit 61)]⟩
noncomputable def hd.s_138 : Str := ⟨#[(nat_lit 105), (nat_lit 115), (nat_lit 111), (nat_lit 56), (nat_lit 56), (nat_lit 53), (nat_lit 57), (nat_lit 95), (nat_lit 51)]⟩
noncomputable def hd.s_241 : Str := ⟨#[(nat_lit 116), (nat_lit 111), (nat_lit 108), (nat_lit 100)]⟩
noncomputable def hd.s_160 : Str := ⟨#[(nat_lit 107), (nat_lit 111), (nat_lit 105), (nat_lit 56), (nat_lit 95), (nat_lit 114)]⟩
noncomputable def hd.s_252 : Str := ⟨#[(nat_lit 115), (nat_lit 105), (nat_lit 103), (nat_lit 110)]⟩
noncomputable def hd.s_218 : Str := ⟨#[(nat_lit 58), (nat_lit 61)]⟩
noncomputable def hd.s_91 : Str := ⟨#[(nat_lit 73), (nat_lit 83), (nat_lit 79), (nat_lit 56), (nat_lit 56), (nat_lit 53), (nat_lit 57), (nat_lit 45), (nat_lit 49), (nat_lit 53)]⟩
noncomputable def hd.s_117 : Str := ⟨#[(nat_lit 56), (nat_lit 56), (nat_lit 53), (nat_lit 57), (nat_lit 49)]⟩
noncomputable def hd.s_210 : Str := ⟨#[(nat_lit 45), (nat_lit 61)]⟩
noncomputable def hd.s_187 : Str := ⟨#[(nat_lit 105), (nat_lit 115), (nat_lit 111), (nat_lit 56), (nat_lit 56), (nat_lit 53), (nat_lit 57), (nat_lit 56)]⟩
noncomputable def hd.s_17 : Str := ⟨#[(nat_lit 82), (nat_lit 80), (nat_lit 65), (nat_lit 82)]⟩
noncomputable def hd.s_206 : Str := ⟨#[(nat_lit 42), (nat_lit 61)]⟩
noncomputable def hd.s_171 : Str := ⟨#[(nat_lit 101), (nat_lit 117), (nat_lit 99), (nat_lit 106), (nat_lit 112)]⟩
noncomputable def hd.s_36 : Str := ⟨#[(nat_lit 69), (nat_lit 81), (nat_lit 69), (nat_lit 81), (nat_lit 85), (nat_lit 65), (nat_lit 76)]⟩
noncomputable def hd.s_42 : Str := ⟨#[(nat_lit 76), (nat_lit 69), (nat_lit 70), (nat_lit 84), (nat_lit 83), (nat_lit 72), (nat_lit 73), (nat_lit 70), (nat_lit 84)]⟩
noncomputable def hd.s_4 : Str := ⟨#[(nat_lit 95), (nat_lit 95), (nat_lit 108), (nat_lit 111), (nat_lit 97), (nat_lit 100), (nat_lit 101), (nat_lit 114), (nat_lit 95), (nat_lit 95)]⟩
noncomputable def hd.s_217 : Str := ⟨#[(nat_lit 58)]⟩
noncomputable def hd.s_164 : Str := ⟨#[(nat_lit 107), (nat_lit 111), (nat_lit 105), (nat_lit 56), (nat_lit 95), (nat_lit 117)]⟩
noncomputable def hd.s_232 : Str := ⟨#[(nat_lit 93)]⟩
noncomputable def hd.s_66 : Str := ⟨#[(nat_lit 95), (nat_lit 108), (nat_lit 97), (nat_lit 119), (nat_lit 95), (nat_lit 116), (nat_lit 111), (nat_lit 108), (nat_lit 100)]⟩
noncomputable def hd.s_105 : Str := ⟨#[(nat_lit 74), (nat_lit 73), (nat_lit 83), (nat_lit 55)]⟩
noncomputable def hd.s_131 : Str := ⟨#[(nat_lit 73), (nat_lit 83), (nat_lit 79), (nat_lit 56), (nat_lit 56), (nat_lit 53), (nat_lit 57), (nat_lit 45), (nat_lit 49), (nat_lit 51)]⟩
noncomputable def hd.s_158 : Str := ⟨#[(nat_lit 101), (nat_lit 117), (nat_lit 99), (nat_lit 75), (nat_lit 82)]⟩
noncomputable def hd.s_67 : Str := ⟨#[(nat_lit 95), (nat_lit 108), (nat_lit 97), (nat_lit 119), (nat_lit 95), (nat_lit 106), (nat_lit 111), (nat_lit 105), (nat_lit 110), (nat_lit 101), (nat_lit 100)]⟩
noncomputable def hd.s_31 : Str := ⟨#[(nat_lit 69), (nat_lit 81), (nat_lit 85), (nat_lit 65), (nat_lit 76)]⟩
noncomputable def hd.s_168 : Str := ⟨#[(nat_lit 99), (nat_lit 112), (nat_lit 49), (nat_lit 50), (nat_lit 53), (nat_lit 49)]⟩
noncomputable def hd.s_111 : Str := ⟨#[(nat_lit 109), (nat_lit 105), (nat_lit 99), (nat_lit 114), (nat_lit 111), (nat_lit 115), (nat_lit 111), (nat_lit 102), (nat_lit 116), (nat_lit 99), (nat_lit 112), (nat_lit 49), (nat_lit 50), (nat_lit 53), (nat_lit 49)]⟩
noncomputable def hd.s_223 : Str := ⟨#[(nat_lit 60), (nat_lit 61)]⟩
noncomputable def hd.s_92 : Str := ⟨#[(nat_lit 85), (nat_lit 84), (nat_lit 70), (nat_lit 45), (nat_lit 56)]⟩
noncomputable def hd.s_16 : Str := ⟨#[(nat_lit 76), (nat_lit 80), (nat_lit 65), (nat_lit 82)]⟩
noncomputable def hd.s_23 : Str := ⟨#[(nat_lit 80), (nat_lit 76), (nat_lit 85), (nat_lit 83)]⟩
noncomputable def hd.s_118 : Str := ⟨#[(nat_lit 56), (nat_lit 56), (nat_lit 53), (nat_lit 57), (nat_lit 50)]⟩
noncomputable def hd.s_148 : Str := ⟨#[(nat_lit 73), (nat_lit 83), (nat_lit 79), (nat_lit 56), (nat_lit 56), (nat_lit 53), (nat_lit 57), (nat_lit 45), (nat_lit 56)]⟩
noncomputable def hd.s_159 : Str := ⟨#[(nat_lit 117), (nat_lit 116), (nat_lit 102), (nat_lit 95), (nat_lit 56)]⟩
noncomputable def hd.s_130 : Str := ⟨#[(nat_lit 105), (nat_lit 115), (nat_lit 111), (nat_lit 56), (nat_lit 56), (nat_lit 53), (nat_lit 57), (nat_lit 95), (nat_lit 49), (nat_lit 51)]⟩
noncomputable def hd.s_95 : Str := ⟨#[(nat_lit 108), (nat_lit 111), (nat_lit 99), (nat_lit 97), (nat_lit 108), (nat_lit 101), (nat_lit 116), (nat_lit 117), (nat_lit 112), (nat_lit 108), (nat_lit 101)]⟩
noncomputable def hd.s_197 : Str := ⟨#[(nat_lit 37)]⟩
noncomputable def hd.s_192 : Str := ⟨#[(nat_lit 108), (nat_lit 97), (nat_lit 116), (nat_lit 105), (nat_lit 110), (nat_lit 49)]⟩
noncomputable def hd.s_174 : Str := ⟨#[(nat_lit 105), (nat_lit 115), (nat_lit 111), (nat_lit 56), (nat_lit 56), (nat_lit 53), (nat_lit 57), (nat_lit 49)]⟩
noncomputable def hd.s_50 : Str := ⟨#[(nat_lit 65), (nat_lit 77), (nat_lit 80), (nat_lit 69), (nat_lit 82), (nat_lit 69), (nat_lit 81), (nat_lit 85), (nat_lit 65), (nat_lit 76)]⟩
noncomputable def hd.s_190 : Str := ⟨#[(nat_lit 107), (nat_lit 111), (nat_lit 105), (nat_lit 56), (nat_lit 116)]⟩
noncomputable def hd.s_221 : Str := ⟨#[(nat_lit 60), (nat_lit 60)]⟩
noncomputable def hd.s_199 : Str := ⟨#[(nat_lit 38)]⟩
noncomputable def hd.s_73 : Str := ⟨#[(nat_lit 107)]⟩
noncomputable def hd.s_179 : Str := ⟨#[(nat_lit 105), (nat_lit 115), (nat_lit 111), (nat_lit 56), (nat_lit 56), (nat_lit 53), (nat_lit 57), (nat_lit 49), (nat_lit 53)]⟩
noncomputable def hd.s_137 : Str := ⟨#[(nat_lit 105), (nat_lit 115), (nat_lit 111), (nat_lit 56), (nat_lit 56), (nat_lit 53), (nat_lit 57), (nat_lit 95), (nat_lit 50)]⟩
noncomputable def hd.s_43 : Str := ⟨#[(nat_lit 82), (nat_lit 73), (nat_lit 71), (nat_lit 72), (nat_lit 84), (nat_lit 83), (nat_lit 72), (nat_lit 73), (nat_lit 70), (nat_lit 84)]⟩
noncomputable def hd.s_144 : Str := ⟨#[(nat_lit 73), (nat_lit 83), (nat_lit 79), (nat_lit 56), (nat_lit 56), (nat_lit 53), (nat_lit 57), (nat_lit 45), (nat_lit 54)]⟩
noncomputable def hd.s_83 : Str := ⟨#[(nat_lit 95)]⟩
noncomputable def hd.s_106 : Str := ⟨#[(nat_lit 106), (nat_lit 105), (nat_lit 115), (nat_lit 55)]⟩
noncomputable def hd.s_56 : Str := ⟨#[(nat_lit 68), (nat_lit 79), (nat_lit 85), (nat_lit 66), (nat_lit 76), (nat_lit 69), (nat_lit 83), (nat_lit 76), (nat_lit 65), (nat_lit 83), (nat_lit 72)]⟩
noncomputable def hd.s_234 : Str := ⟨#[(nat_lit 94), (nat_lit 61)]⟩
noncomputable def hd.s_231 : Str := ⟨#[(nat_lit 91)]⟩
noncomputable def hd.s_86 : Str := ⟨#[(nat_lit 99), (nat_lit 112), (nat_lit 121), (nat_lit 51), (nat_lit 49), (nat_lit 51), (nat_lit 46), (nat_lit 108), (nat_lit 111), (nat_lit 99), (nat_lit 97), (nat_lit 108), (nat_lit 101)]⟩
noncomputable def hd.s_65 : Str := ⟨#[(nat_lit 95), (nat_lit 108), (nat_lit 97), (nat_lit 119), (nat_lit 95), (nat_lit 114), (nat_lit 101), (nat_lit 97), (nat_lit 100)]⟩
noncomputable def hd.s_62 : Str := ⟨#[(nat_lit 67), (nat_lit 79), (nat_lit 76), (nat_lit 79), (nat_lit 78), (nat_lit 69), (nat_lit 81), (nat_lit 85), (nat_lit 65), (nat_lit 76)]⟩
noncomputable def hd.s_135 : Str := ⟨#[(nat_lit 105), (nat_lit 115), (nat_lit 111), (nat_lit 56), (nat_lit 56), (nat_lit 53), (nat_lit 57), (nat_lit 95), (nat_lit 49), (nat_lit 54)]⟩
noncomputable def hd.s_113 : Str := ⟨#[(nat_lit 109), (nat_lit 105), (nat_lit 99), (nat_lit 114), (nat_lit 111), (nat_lit 115), (nat_lit 111), (nat_lit 102), (nat_lit 116), (nat_lit 99), (nat_lit 112), (nat_lit 49), (nat_lit 50), (nat_lit 53), (nat_lit 53)]⟩
noncomputable def hd.s_49 : Str := ⟨#[(nat_lit 80), (nat_lit 69), (nat_lit 82), (nat_lit 67), (nat_lit 69), (nat_lit 78), (nat_lit 84), (nat_lit 69), (nat_lit 81), (nat_lit 85), (nat_lit 65), (nat_lit 76)]⟩
noncomputable def hd.s_9 : Str := ⟨#[(nat_lit 47), (nat_lit 99), (nat_lit 108), (nat_lit 97), (nat_lit 105), (nat_lit 109), (nat_lit 47), (nat_lit 99), (nat_lit 117), (nat_lit 116), (nat_lit 46), (nat_lit 112), (nat_lit 121)]⟩
noncomputable def hd.s_85 : Str := ⟨#[(nat_lit 45)]⟩
noncomputable def hd.s_161 : Str := ⟨#[(nat_lit 75), (nat_lit 79), (nat_lit 73), (nat_lit 56), (nat_lit 45), (nat_lit 82)]⟩
noncomputable def hd.s_18 : Str := ⟨#[(nat_lit 76), (nat_lit 83), (nat_lit 81), (nat_lit 66)]⟩
noncomputable def hd.heap_39 : ((v0 : Params) → Frag) := by
  refine (?mf : ∀ {n0 a0 b0 d0 r0 t0 c0 u0 e0 p0 s1 n2 a2 b2 d2 r2 t2 c2 u2 e2 p2 n3 a3 b3 d3 r3 t3 c3 u3 e3 p3 n4 a4 b4 d4 r4 t4 c4 u4 e4 p4 s5 s6 s7 s8 s9 s10 s11 s12 s13 s14 s15 s16 s17 s18 s19 s20 s21 s22 s23 s24 s25 s26 s27 s28 s29 s30 s31 s32 s33 s34 s35 s36 s37 s38 s39 s40 s41 s42 s43 s44 s45 s46 s47 s48 s49 s50 s51 s52 s53 s54 s55 s56 s57 n58 a58 b58 d58 r58 t58 c58 u58 e58 p58 n59 a59 b59 d59 r59 t59 c59 u59 e59 p59 n60 a60 b60 d60 r60 t60 c60 u60 e60 p60 n61 a61 b61 d61 r61 t61 c61 u61 e61 p61 n62 a62 b62 d62 r62 t62 c62 u62 e62 p62 n63 a63 b63 d63 r63 t63 c63 u63 e63 p63 m1 m2 m3 m4 q1 q2 q3 q4 q5}, PySem.Challenge.pw_il0204_01 = Program.mk (PySem.Module.mk (Stmt.FunctionDef n0 a0 b0 d0 r0 t0 c0 u0 e0 p0 :: s1 :: Stmt.FunctionDef n2 a2 b2 d2 r2 t2 c2 u2 e2 p2 :: Stmt.FunctionDef n3 a3 b3 d3 r3 t3 c3 u3 e3 p3 :: Stmt.FunctionDef n4 a4 b4 d4 r4 t4 c4 u4 e4 p4 :: s5 :: s6 :: s7 :: s8 :: s9 :: s10 :: s11 :: s12 :: s13 :: s14 :: s15 :: s16 :: s17 :: s18 :: s19 :: s20 :: s21 :: s22 :: s23 :: s24 :: s25 :: s26 :: s27 :: s28 :: s29 :: s30 :: s31 :: s32 :: s33 :: s34 :: s35 :: s36 :: s37 :: s38 :: s39 :: s40 :: s41 :: s42 :: s43 :: s44 :: s45 :: s46 :: s47 :: s48 :: s49 :: s50 :: s51 :: s52 :: s53 :: s54 :: s55 :: s56 :: s57 :: Stmt.FunctionDef n58 a58 b58 d58 r58 t58 c58 u58 e58 p58 :: Stmt.FunctionDef n59 a59 b59 d59 r59 t59 c59 u59 e59 p59 :: Stmt.FunctionDef n60 a60 b60 d60 r60 t60 c60 u60 e60 p60 :: Stmt.FunctionDef n61 a61 b61 d61 r61 t61 c61 u61 e61 p61 :: Stmt.FunctionDef n62 a62 b62 d62 r62 t62 c62 u62 e62 p62 :: Stmt.FunctionDef n63 a63 b63 d63 r63 t63 c63 u63 e63 p63 :: []) m1 m2 m3 m4) q1 q2 q3 q4 q5 → ((v0 : Params) → Frag)) rfl
  exact fun {n0 a0 b0 d0 r0 t0 c0 u0 e0 p0 s1 n2 a2 b2 d2 r2 t2 c2 u2 e2 p2 n3 a3 b3 d3 r3 t3 c3 u3 e3 p3 n4 a4 b4 d4 r4 t4 c4 u4 e4 p4 s5 s6 s7 s8 s9 s10 s11 s12 s13 s14 s15 s16 s17 s18 s19 s20 s21 s22 s23 s24 s25 s26 s27 s28 s29 s30 s31 s32 s33 s34 s35 s36 s37 s38 s39 s40 s41 s42 s43 s44 s45 s46 s47 s48 s49 s50 s51 s52 s53 s54 s55 s56 s57 n58 a58 b58 d58 r58 t58 c58 u58 e58 p58 n59 a59 b59 d59 r59 t59 c59 u59 e59 p59 n60 a60 b60 d60 r60 t60 c60 u60 e60 p60 n61 a61 b61 d61 r61 t61 c61 u61 e61 p61 n62 a62 b62 d62 r62 t62 c62 u62 e62 p62 n63 a63 b63 d63 r63 t63 c63 u63 e63 p63 m1 m2 m3 m4 q1 q2 q3 q4 q5} _ => (fun (v0 : Params) => (((nat_lit 2), (Obj.mk Value.none none (Data.dict #[] 0) #[])) :: ((nat_lit 3), (Obj.mk (Value.type "dict") none (Data.dict (List.toArray ((DictEntry.mk (PyData.keyHash v0 (Str.ofString "__name__")) (Value.str (Str.ofString "__name__") 165) (Value.str (Str.ofString "law_il0204_01") 839)) :: (DictEntry.mk (PyData.keyHash v0 (Str.ofString "__doc__")) (Value.str (Str.ofString "__doc__") 166) Value.none) :: (DictEntry.mk (PyData.keyHash v0 (Str.ofString "__package__")) (Value.str (Str.ofString "__package__") 167) Value.none) :: (DictEntry.mk (PyData.keyHash v0 (Str.ofString "__loader__")) (Value.str (Str.ofString "__loader__") 168) (Value.builtin "__main__.__loader__#opaque")) :: (DictEntry.mk (PyData.keyHash v0 (Str.ofString "__spec__")) (Value.str (Str.ofString "__spec__") 169) Value.none) :: (DictEntry.mk (PyData.keyHash v0 (Str.ofString "__annotations__")) (Value.str (Str.ofString "__annotations__") 170) (Value.ref 6)) :: (DictEntry.mk (PyData.keyHash v0 (Str.ofString "__builtins__")) (Value.str (Str.ofString "__builtins__") 171) (Value.ref 4)) :: (DictEntry.mk (PyData.keyHash v0 (Str.ofString "__file__")) (Value.str (Str.ofString "__file__") 173) (Value.str (Str.ofString "/claim/cut.py") 172)) :: (DictEntry.mk (PyData.keyHash v0 (Str.ofString "__cached__")) (Value.str (Str.ofString "__cached__") 174) Value.none) :: (DictEntry.mk (PyData.keyHash v0 (Str.ofString "_wall")) (Value.str (Str.ofString "_wall") 193) (Value.ref 21)) :: (DictEntry.mk (PyData.keyHash v0 (Str.ofString "_replace_encoding")) (Value.str (Str.ofString "_replace_encoding") 205) (Value.ref 28)) :: (DictEntry.mk (PyData.keyHash v0 (Str.ofString "_append_modifier")) (Value.str (Str.ofString "_append_modifier") 215) (Value.ref 35)) :: (DictEntry.mk (PyData.keyHash v0 (Str.ofString "_build_localename")) (Value.str (Str.ofString "_build_localename") 224) (Value.ref 42)) :: (DictEntry.mk (PyData.keyHash v0 (Str.ofString "locale_encoding_alias")) (Value.str (Str.ofString "locale_encoding_alias") 357) (Value.ref 43)) :: (DictEntry.mk (PyData.keyHash v0 (Str.ofString "LPAR")) (Value.str (Str.ofString "LPAR") 647) (Value.int (7 : Int) 646)) :: (DictEntry.mk (PyData.keyHash v0 (Str.ofString "RPAR")) (Value.str (Str.ofString "RPAR") 649) (Value.int (8 : Int) 648)) :: (DictEntry.mk (PyData.keyHash v0 (Str.ofString "LSQB")) (Value.str (Str.ofString "LSQB") 651) (Value.int (9 : Int) 650)) :: (DictEntry.mk (PyData.keyHash v0 (Str.ofString "RSQB")) (Value.str (Str.ofString "RSQB") 653) (Value.int (10 : Int) 652)) :: (DictEntry.mk (PyData.keyHash v0 (Str.ofString "COLON")) (Value.str (Str.ofString "COLON") 655) (Value.int (11 : Int) 654)) :: (DictEntry.mk (PyData.keyHash v0 (Str.ofString "COMMA")) (Value.str (Str.ofString "COMMA") 657) (Value.int (12 : Int) 656)) :: (DictEntry.mk (PyData.keyHash v0 (Str.ofString "SEMI")) (Value.str (Str.ofString "SEMI") 659) (Value.int (13 : Int) 658)) :: (DictEntry.mk (PyData.keyHash v0 (Str.ofString "PLUS")) (Value.str (Str.ofString "PLUS") 661) (Value.int (14 : Int) 660)) :: (DictEntry.mk (PyData.keyHash v0 (Str.ofString "MINUS")) (Value.str (Str.ofString "MINUS") 663) (Value.int (15 : Int) 662)) :: (DictEntry.mk (PyData.keyHash v0 (Str.ofString "STAR")) (Value.str (Str.ofString "STAR") 665) (Value.int (16 : Int) 664)) :: (DictEntry.mk (PyData.keyHash v0 (Str.ofString "SLASH")) (Value.str (Str.ofString "SLASH") 667) (Value.int (17 : Int) 666)) :: (DictEntry.mk (PyData.keyHash v0 (Str.ofString "VBAR")) (Value.str (Str.ofString "VBAR") 669) (Value.int (18 : Int) 668)) :: (DictEntry.mk (PyData.keyHash v0 (Str.ofString "AMPER")) (Value.str (Str.ofString "AMPER") 671) (Value.int (19 : Int) 670)) :: (DictEntry.mk (PyData.keyHash v0 (Str.ofString "LESS")) (Value.str (Str.ofString "LESS") 673) (Value.int (20 : Int) 672)) :: (DictEntry.mk (PyData.keyHash v0 (Str.ofString "GREATER")) (Value.str (Str.ofString "GREATER") 675) (Value.int (21 : Int) 674)) :: (DictEntry.mk (PyData.keyHash v0 (Str.ofString "EQUAL")) (Value.str (Str.ofString "EQUAL") 677) (Value.int (22 : Int) 676)) :: (DictEntry.mk (PyData.keyHash v0 (Str.ofString "DOT")) (Value.str (Str.ofString "DOT") 679) (Value.int (23 : Int) 678)) :: (DictEntry.mk (PyData.keyHash v0 (Str.ofString "PERCENT")) (Value.str (Str.ofString "PERCENT") 681) (Value.int (24 : Int) 680)) :: (DictEntry.mk (PyData.keyHash v0 (Str.ofString "LBRACE")) (Value.str (Str.ofString "LBRACE") 683) (Value.int (25 : Int) 682)) :: (DictEntry.mk (PyData.keyHash v0 (Str.ofString "RBRACE")) (Value.str (Str.ofString "RBRACE") 685) (Value.int (26 : Int) 684)) :: (DictEntry.mk (PyData.keyHash v0 (Str.ofString "EQEQUAL")) (Value.str (Str.ofString "EQEQUAL") 687) (Value.int (27 : Int) 686)) :: (DictEntry.mk (PyData.keyHash v0 (Str.ofString "NOTEQUAL")) (Value.str (Str.ofString "NOTEQUAL") 689) (Value.int (28 : Int) 688)) :: (DictEntry.mk (PyData.keyHash v0 (Str.ofString "LESSEQUAL")) (Value.str (Str.ofString "LESSEQUAL") 691) (Value.int (29 : Int) 690)) :: (DictEntry.mk (PyData.keyHash v0 (Str.ofString "GREATEREQUAL")) (Value.str (Str.ofString "GREATEREQUAL") 693) (Value.int (30 : Int) 692)) :: (DictEntry.mk (PyData.keyHash v0 (Str.ofString "TILDE")) (Value.str (Str.ofString "TILDE") 695) (Value.int (31 : Int) 694)) :: (DictEntry.mk (PyData.keyHash v0 (Str.ofString "CIRCUMFLEX")) (Value.str (Str.ofString "CIRCUMFLEX") 697) (Value.int (32 : Int) 696)) :: (DictEntry.mk (PyData.keyHash v0 (Str.ofString "LEFTSHIFT")) (Value.str (Str.ofString "LEFTSHIFT") 699) (Value.int (33 : Int) 698)) :: (DictEntry.mk (PyData.keyHash v0 (Str.ofString "RIGHTSHIFT")) (Value.str (Str.ofString "RIGHTSHIFT") 701) (Value.int (34 : Int) 700)) :: (DictEntry.mk (PyData.keyHash v0 (Str.ofString "DOUBLESTAR")) (Value.str (Str.ofString "DOUBLESTAR") 703) (Value.int (35 : Int) 702)) :: (DictEntry.mk (PyData.keyHash v0 (Str.ofString "PLUSEQUAL")) (Value.str (Str.ofString "PLUSEQUAL") 705) (Value.int (36 : Int) 704)) :: (DictEntry.mk (PyData.keyHash v0 (Str.ofString "MINEQUAL")) (Value.str (Str.ofString "MINEQUAL") 707) (Value.int (37 : Int) 706)) :: (DictEntry.mk (PyData.keyHash v0 (Str.ofString "STAREQUAL")) (Value.str (Str.ofString "STAREQUAL") 709) (Value.int (38 : Int) 708)) :: (DictEntry.mk (PyData.keyHash v0 (Str.ofString "SLASHEQUAL")) (Value.str (Str.ofString "SLASHEQUAL") 711) (Value.int (39 : Int) 710)) :: (DictEntry.mk (PyData.keyHash v0 (Str.ofString "PERCENTEQUAL")) (Value.str (Str.ofString "PERCENTEQUAL") 713) (Value.int (40 : Int) 712)) :: (DictEntry.mk (PyData.keyHash v0 (Str.ofString "AMPEREQUAL")) (Value.str (Str.ofString "AMPEREQUAL") 715) (Value.int (41 : Int) 714)) :: (DictEntry.mk (PyData.keyHash v0 (Str.ofString "VBAREQUAL")) (Value.str (Str.ofString "VBAREQUAL") 717) (Value.int (42 : Int) 716)) :: (DictEntry.mk (PyData.keyHash v0 (Str.ofString "CIRCUMFLEXEQUAL")) (Value.str (Str.ofString "CIRCUMFLEXEQUAL") 719) (Value.int (43 : Int) 718)) :: (DictEntry.mk (PyData.keyHash v0 (Str.ofString "LEFTSHIFTEQUAL")) (Value.str (Str.ofString "LEFTSHIFTEQUAL") 721) (Value.int (44 : Int) 720)) :: (DictEntry.mk (PyData.keyHash v0 (Str.ofString "RIGHTSHIFTEQUAL")) (Value.str (Str.ofString "RIGHTSHIFTEQUAL") 723) (Value.int (45 : Int) 722)) :: (DictEntry.mk (PyData.keyHash v0 (Str.ofString "DOUBLESTAREQUAL")) (Value.str (Str.ofString "DOUBLESTAREQUAL") 725) (Value.int (46 : Int) 724)) :: (DictEntry.mk (PyData.keyHash v0 (Str.ofString "DOUBLESLASH")) (Value.str (Str.ofString "DOUBLESLASH") 727) (Value.int (47 : Int) 726)) :: (DictEntry.mk (PyData.keyHash v0 (Str.ofString "DOUBLESLASHEQUAL")) (Value.str (Str.ofString "DOUBLESLASHEQUAL") 729) (Value.int (48 : Int) 728)) :: (DictEntry.mk (PyData.keyHash v0 (Str.ofString "AT")) (Value.str (Str.ofString "AT") 731) (Value.int (49 : Int) 730)) :: (DictEntry.mk (PyData.keyHash v0 (Str.ofString "ATEQUAL")) (Value.str (Str.ofString "ATEQUAL") 733) (Value.int (50 : Int) 732)) :: (DictEntry.mk (PyData.keyHash v0 (Str.ofString "RARROW")) (Value.str (Str.ofString "RARROW") 735) (Value.int (51 : Int) 734)) :: (DictEntry.mk (PyData.keyHash v0 (Str.ofString "ELLIPSIS")) (Value.str (Str.ofString "ELLIPSIS") 737) (Value.int (52 : Int) 736)) :: (DictEntry.mk (PyData.keyHash v0 (Str.ofString "COLONEQUAL")) (Value.str (Str.ofString "COLONEQUAL") 739) (Value.int (53 : Int) 738)) :: (DictEntry.mk (PyData.keyHash v0 (Str.ofString "EXCLAMATION")) (Value.str (Str.ofString "EXCLAMATION") 741) (Value.int (54 : Int) 740)) :: (DictEntry.mk (PyData.keyHash v0 (Str.ofString "EXACT_TOKEN_TYPES")) (Value.str (Str.ofString "EXACT_TOKEN_TYPES") 838) (Value.ref 233)) :: (DictEntry.mk (PyData.keyHash v0 (Str.ofString "_law_read")) (Value.str (Str.ofString "_law_read") 846) (Value.ref 240)) :: (DictEntry.mk (PyData.keyHash v0 (Str.ofString "_law_told")) (Value.str (Str.ofString "_law_told") 857) (Value.ref 247)) :: (DictEntry.mk (PyData.keyHash v0 (Str.ofString "_law_joined")) (Value.str (Str.ofString "_law_joined") 865) (Value.ref 254)) :: (DictEntry.mk (PyData.keyHash v0 (Str.ofString "_law_modified")) (Value.str (Str.ofString "_law_modified") 871) (Value.ref 259)) :: (DictEntry.mk (PyData.keyHash v0 (Str.ofString "_law_refused")) (Value.str (Str.ofString "_law_refused") 881) (Value.ref 266)) :: (DictEntry.mk (PyData.keyHash v0 (Str.ofString "law")) (Value.str (Str.ofString "law") 887) (Value.ref 271)) :: [])) 73) #[])) :: ((nat_lit 6), (Obj.mk (Value.type "dict") none (Data.dict #[] 0) #[])) :: ((nat_lit 15), (Obj.mk (Value.type "tuple") none (Data.seq #[] 0) #[])) :: ((nat_lit 17), (Obj.mk (Value.type "tuple") none (Data.seq #[(Value.str (Str.ofString "k") 190)] 0) #[])) :: ((nat_lit 18), (Obj.mk (Value.type "tuple") none (Data.seq #[] 0) #[])) :: ((nat_lit 20), (Obj.mk (Value.type "code") none (Data.fields #[(Value.str (Str.ofString "_wall") 187), (Value.str (Str.ofString "_wall") 188), (Value.str (Str.ofString "/claim/cut.py") 189), (Value.int (1 : Int) 0), (Value.int (1 : Int) 0), (Value.int (0 : Int) 0), (Value.int (0 : Int) 0), (Value.int (3 : Int) 0), (Value.ref 15), (Value.bool Bool.true), (Value.int (181 : Int) 0), (Value.ref 16), Value.none, (Value.ref 17), (Value.ref 18), (Value.ref 19), (Value.int (191 : Int) 0), (Value.int (1 : Int) 0), (Value.str (Str.ofString "/claim/cut.py") 192)]) #[])) :: ((nat_lit 21), (Obj.mk (Value.type "function") none (Data.func (FuncData.mk (Str.ofString "_wall") (Str.ofString "_wall") a0 (FuncBody.stmts b0) c0 3 [] Value.none Value.none Value.none (Value.str (Str.ofString "__main__") 164) none (Value.ref 20) Value.none 0)) #[])) :: ((nat_lit 22), (Obj.mk (Value.type "tuple") none (Data.seq #[] 0) #[])) :: ((nat_lit 24), (Obj.mk (Value.type "tuple") none (Data.seq #[(Value.str (Str.ofString "code") 199), (Value.str (Str.ofString "encoding") 200), (Value.str (Str.ofString "langname") 201), (Value.str (Str.ofString "norm_encoding") 202)] 0) #[])) :: ((nat_lit 25), (Obj.mk (Value.type "tuple") none (Data.seq #[] 0) #[])) :: ((nat_lit 27), (Obj.mk (Value.type "code") none (Data.fields #[(Value.str (Str.ofString "_replace_encoding") 196), (Value.str (Str.ofString "_replace_encoding") 197), (Value.str (Str.ofString "/claim/cut.py") 198), (Value.int (5 : Int) 0), (Value.int (2 : Int) 0), (Value.int (0 : Int) 0), (Value.int (0 : Int) 0), (Value.int (3 : Int) 0), (Value.ref 22), (Value.bool Bool.true), (Value.int (181 : Int) 0), (Value.ref 23), Value.none, (Value.ref 24), (Value.ref 25), (Value.ref 26), (Value.int (203 : Int) 0), (Value.int (5 : Int) 0), (Value.str (Str.ofString "/claim/cut.py") 204)]) #[])) :: ((nat_lit 28), (Obj.mk (Value.type "function") none (Data.func (FuncData.mk (Str.ofString "_replace_encoding") (Str.ofString "_replace_encoding") a2 (FuncBody.stmts b2) c2 3 [] Value.none Value.none Value.none (Value.str (Str.ofString "cpy313.locale") 194) none (Value.ref 27) Value.none 0)) #[])) :: ((nat_lit 29), (Obj.mk (Value.type "tuple") none (Data.seq #[] 0) #[])) :: ((nat_lit 31), (Obj.mk (Value.type "tuple") none (Data.seq #[(Value.str (Str.ofString "code") 209), (Value.str (Str.ofString "modifier") 210), (Value.str (Str.ofString "_") 211), (Value.str (Str.ofString "encoding") 212)] 0) #[])) :: ((nat_lit 32), (Obj.mk (Value.type "tuple") none (Data.seq #[] 0) #[])) :: ((nat_lit 34), (Obj.mk (Value.type "code") none (Data.fields #[(Value.str (Str.ofString "_append_modifier") 206), (Value.str (Str.ofString "_append_modifier") 207), (Value.str (Str.ofString "/claim/cut.py") 208), (Value.int (22 : Int) 0), (Value.int (2 : Int) 0), (Value.int (0 : Int) 0), (Value.int (0 : Int) 0), (Value.int (3 : Int) 0), (Value.ref 29), (Value.bool Bool.true), (Value.int (181 : Int) 0), (Value.ref 30), Value.none, (Value.ref 31), (Value.ref 32), (Value.ref 33), (Value.int (213 : Int) 0), (Value.int (22 : Int) 0), (Value.str (Str.ofString "/claim/cut.py") 214)]) #[])) :: ((nat_lit 35), (Obj.mk (Value.type "function") none (Data.func (FuncData.mk (Str.ofString "_append_modifier") (Str.ofString "_append_modifier") a3 (FuncBody.stmts b3) c3 3 [] Value.none Value.none Value.none (Value.str (Str.ofString "cpy313.locale") 194) none (Value.ref 34) Value.none 0)) #[])) :: ((nat_lit 36), (Obj.mk (Value.type "tuple") none (Data.seq #[] 0) #[])) :: ((nat_lit 38), (Obj.mk (Value.type "tuple") none (Data.seq #[(Value.str (Str.ofString "localetuple") 219), (Value.str (Str.ofString "language") 220), (Value.str (Str.ofString "encoding") 221)] 0) #[])) :: ((nat_lit 39), (Obj.mk (Value.type "tuple") none (Data.seq #[] 0) #[])) :: ((nat_lit 41), (Obj.mk (Value.type "code") none (Data.fields #[(Value.str (Str.ofString "_build_localename") 216), (Value.str (Str.ofString "_build_localename") 217), (Value.str (Str.ofString "/claim/cut.py") 218), (Value.int (32 : Int) 0), (Value.int (1 : Int) 0), (Value.int (0 : Int) 0), (Value.int (0 : Int) 0), (Value.int (3 : Int) 0), (Value.ref 36), (Value.bool Bool.true), (Value.int (181 : Int) 0), (Value.ref 37), Value.none, (Value.ref 38), (Value.ref 39), (Value.ref 40), (Value.int (222 : Int) 0), (Value.int (32 : Int) 0), (Value.str (Str.ofString "/claim/cut.py") 223)]) #[])) :: ((nat_lit 42), (Obj.mk (Value.type "function") none (Data.func (FuncData.mk (Str.ofString "_build_localename") (Str.ofString "_build_localename") a4 (FuncBody.stmts b4) c4 3 [] Value.none Value.none Value.none (Value.str (Str.ofString "cpy313.locale") 194) none (Value.ref 41) Value.none 0)) #[])) :: ((nat_lit 43), (Obj.mk (Value.type "dict") none (Data.dict (List.toArray ((DictEntry.mk (PyData.keyHash v0 (Str.ofString "437")) (Value.str (Str.ofString "437") 225) (Value.str (Str.ofString "C") 226)) :: (DictEntry.mk (PyData.keyHash v0 (Str.ofString "c")) (Value.str (Str.ofString "c") 228) (Value.str (Str.ofString "C") 229)) :: (DictEntry.mk (PyData.keyHash v0 (Str.ofString "en")) (Value.str (Str.ofString "en") 231) (Value.str (Str.ofString "ISO8859-1") 232)) :: (DictEntry.mk (PyData.keyHash v0 (Str.ofString "jis")) (Value.str (Str.ofString "jis") 234) (Value.str (Str.ofString "JIS7") 235)) :: (DictEntry.mk (PyData.keyHash v0 (Str.ofString "jis7")) (Value.str (Str.ofString "jis7") 237) (Value.str (Str.ofString "JIS7") 238)) :: (DictEntry.mk (PyData.keyHash v0 (Str.ofString "ajec")) (Value.str (Str.ofString "ajec") 240) (Value.str (Str.ofString "eucJP") 241)) :: (DictEntry.mk (PyData.keyHash v0 (Str.ofString "koi8c")) (Value.str (Str.ofString "koi8c") 243) (Value.str (Str.ofString "KOI8-C") 244)) :: (DictEntry.mk (PyData.keyHash v0 (Str.ofString "microsoftcp1251")) (Value.str (Str.ofString "microsoftcp1251") 246) (Value.str (Str.ofString "CP1251") 247)) :: (DictEntry.mk (PyData.keyHash v0 (Str.ofString "microsoftcp1255")) (Value.str (Str.ofString "microsoftcp1255") 249) (Value.str (Str.ofString "CP1255") 250)) :: (DictEntry.mk (PyData.keyHash v0 (Str.ofString "microsoftcp1256")) (Value.str (Str.ofString "microsoftcp1256") 252) (Value.str (Str.ofString "CP1256") 253)) :: (DictEntry.mk (PyData.keyHash v0 (Str.ofString "88591")) (Value.str (Str.ofString "88591") 255) (Value.str (Str.ofString "ISO8859-1") 256)) :: (DictEntry.mk (PyData.keyHash v0 (Str.ofString "88592")) (Value.str (Str.ofString "88592") 258) (Value.str (Str.ofString "ISO8859-2") 259)) :: (DictEntry.mk (PyData.keyHash v0 (Str.ofString "88595")) (Value.str (Str.ofString "88595") 261) (Value.str (Str.ofString "ISO8859-5") 262)) :: (DictEntry.mk (PyData.keyHash v0 (Str.ofString "885915")) (Value.str (Str.ofString "885915") 264) (Value.str (Str.ofString "ISO8859-15") 265)) :: (DictEntry.mk (PyData.keyHash v0 (Str.ofString "ascii")) (Value.str (Str.ofString "ascii") 267) (Value.str (Str.ofString "ISO8859-1") 268)) :: (DictEntry.mk (PyData.keyHash v0 (Str.ofString "latin_1")) (Value.str (Str.ofString "latin_1") 270) (Value.str (Str.ofString "ISO8859-1") 271)) :: (DictEntry.mk (PyData.keyHash v0 (Str.ofString "iso8859_1")) (Value.str (Str.ofString "iso8859_1") 273) (Value.str (Str.ofString "ISO8859-1") 274)) :: (DictEntry.mk (PyData.keyHash v0 (Str.ofString "iso8859_10")) (Value.str (Str.ofString "iso8859_10") 276) (Value.str (Str.ofString "ISO8859-10") 277)) :: (DictEntry.mk (PyData.keyHash v0 (Str.ofString "iso8859_11")) (Value.str (Str.ofString "iso8859_11") 279) (Value.str (Str.ofString "ISO8859-11") 280)) :: (DictEntry.mk (PyData.keyHash v0 (Str.ofString "iso8859_13")) (Value.str (Str.ofString "iso8859_13") 282) (Value.str (Str.ofString "ISO8859-13") 283)) :: (DictEntry.mk (PyData.keyHash v0 (Str.ofString "iso8859_14")) (Value.str (Str.ofString "iso8859_14") 285) (Value.str (Str.ofString "ISO8859-14") 286)) :: (DictEntry.mk (PyData.keyHash v0 (Str.ofString "iso8859_15")) (Value.str (Str.ofString "iso8859_15") 288) (Value.str (Str.ofString "ISO8859-15") 289)) :: (DictEntry.mk (PyData.keyHash v0 (Str.ofString "iso8859_16")) (Value.str (Str.ofString "iso8859_16") 291) (Value.str (Str.ofString "ISO8859-16") 292)) :: (DictEntry.mk (PyData.keyHash v0 (Str.ofString "iso8859_2")) (Value.str (Str.ofString "iso8859_2") 294) (Value.str (Str.ofString "ISO8859-2") 295)) :: (DictEntry.mk (PyData.keyHash v0 (Str.ofString "iso8859_3")) (Value.str (Str.ofString "iso8859_3") 297) (Value.str (Str.ofString "ISO8859-3") 298)) :: (DictEntry.mk (PyData.keyHash v0 (Str.ofString "iso8859_4")) (Value.str (Str.ofString "iso8859_4") 300) (Value.str (Str.ofString "ISO8859-4") 301)) :: (DictEntry.mk (PyData.keyHash v0 (Str.ofString "iso8859_5")) (Value.str (Str.ofString "iso8859_5") 303) (Value.str (Str.ofString "ISO8859-5") 304)) :: (DictEntry.mk (PyData.keyHash v0 (Str.ofString "iso8859_6")) (Value.str (Str.ofString "iso8859_6") 306) (Value.str (Str.ofString "ISO8859-6") 307)) :: (DictEntry.mk (PyData.keyHash v0 (Str.ofString "iso8859_7")) (Value.str (Str.ofString "iso8859_7") 309) (Value.str (Str.ofString "ISO8859-7") 310)) :: (DictEntry.mk (PyData.keyHash v0 (Str.ofString "iso8859_8")) (Value.str (Str.ofString "iso8859_8") 312) (Value.str (Str.ofString "ISO8859-8") 313)) :: (DictEntry.mk (PyData.keyHash v0 (Str.ofString "iso8859_9")) (Value.str (Str.ofString "iso8859_9") 315) (Value.str (Str.ofString "ISO8859-9") 316)) :: (DictEntry.mk (PyData.keyHash v0 (Str.ofString "iso2022_jp")) (Value.str (Str.ofString "iso2022_jp") 318) (Value.str (Str.ofString "JIS7") 319)) :: (DictEntry.mk (PyData.keyHash v0 (Str.ofString "shift_jis")) (Value.str (Str.ofString "shift_jis") 321) (Value.str (Str.ofString "SJIS") 322)) :: (DictEntry.mk (PyData.keyHash v0 (Str.ofString "tactis")) (Value.str (Str.ofString "tactis") 324) (Value.str (Str.ofString "TACTIS") 325)) :: (DictEntry.mk (PyData.keyHash v0 (Str.ofString "euc_jp")) (Value.str (Str.ofString "euc_jp") 327) (Value.str (Str.ofString "eucJP") 328)) :: (DictEntry.mk (PyData.keyHash v0 (Str.ofString "euc_kr")) (Value.str (Str.ofString "euc_kr") 329) (Value.str (Str.ofString "eucKR") 330)) :: (DictEntry.mk (PyData.keyHash v0 (Str.ofString "utf_8")) (Value.str (Str.ofString "utf_8") 331) (Value.str (Str.ofString "UTF-8") 332)) :: (DictEntry.mk (PyData.keyHash v0 (Str.ofString "koi8_r")) (Value.str (Str.ofString "koi8_r") 333) (Value.str (Str.ofString "KOI8-R") 334)) :: (DictEntry.mk (PyData.keyHash v0 (Str.ofString "koi8_t")) (Value.str (Str.ofString "koi8_t") 335) (Value.str (Str.ofString "KOI8-T") 336)) :: (DictEntry.mk (PyData.keyHash v0 (Str.ofString "koi8_u")) (Value.str (Str.ofString "koi8_u") 337) (Value.str (Str.ofString "KOI8-U") 338)) :: (DictEntry.mk (PyData.keyHash v0 (Str.ofString "kz1048")) (Value.str (Str.ofString "kz1048") 339) (Value.str (Str.ofString "RK1048") 340)) :: (DictEntry.mk (PyData.keyHash v0 (Str.ofString "cp1251")) (Value.str (Str.ofString "cp1251") 341) (Value.str (Str.ofString "CP1251") 342)) :: (DictEntry.mk (PyData.keyHash v0 (Str.ofString "cp1255")) (Value.str (Str.ofString "cp1255") 343) (Value.str (Str.ofString "CP1255") 344)) :: (DictEntry.mk (PyData.keyHash v0 (Str.ofString "cp1256")) (Value.str (Str.ofString "cp1256") 345) (Value.str (Str.ofString "CP1256") 346)) :: (DictEntry.mk (PyData.keyHash v0 (Str.ofString "eucjp")) (Value.str (Str.ofString "eucjp") 434) (Value.str (Str.ofString "eucJP") 328)) :: (DictEntry.mk (PyData.keyHash v0 (Str.ofString "euckr")) (Value.str (Str.ofString "euckr") 441) (Value.str (Str.ofString "eucKR") 330)) :: (DictEntry.mk (PyData.keyHash v0 (Str.ofString "iso2022jp")) (Value.str (Str.ofString "iso2022jp") 448) (Value.str (Str.ofString "JIS7") 319)) :: (DictEntry.mk (PyData.keyHash v0 (Str.ofString "iso88591")) (Value.str (Str.ofString "iso88591") 455) (Value.str (Str.ofString "ISO8859-1") 274)) :: (DictEntry.mk (PyData.keyHash v0 (Str.ofString "iso885910")) (Value.str (Str.ofString "iso885910") 462) (Value.str (Str.ofString "ISO8859-10") 277)) :: (DictEntry.mk (PyData.keyHash v0 (Str.ofString "iso885911")) (Value.str (Str.ofString "iso885911") 469) (Value.str (Str.ofString "ISO8859-11") 280)) :: (DictEntry.mk (PyData.keyHash v0 (Str.ofString "iso885913")) (Value.str (Str.ofString "iso885913") 476) (Value.str (Str.ofString "ISO8859-13") 283)) :: (DictEntry.mk (PyData.keyHash v0 (Str.ofString "iso885914")) (Value.str (Str.ofString "iso885914") 483) (Value.str (Str.ofString "ISO8859-14") 286)) :: (DictEntry.mk (PyData.keyHash v0 (Str.ofString "iso885915")) (Value.str (Str.ofString "iso885915") 490) (Value.str (Str.ofString "ISO8859-15") 289)) :: (DictEntry.mk (PyData.keyHash v0 (Str.ofString "iso885916")) (Value.str (Str.ofString "iso885916") 497) (Value.str (Str.ofString "ISO8859-16") 292)) :: (DictEntry.mk (PyData.keyHash v0 (Str.ofString "iso88592")) (Value.str (Str.ofString "iso88592") 504) (Value.str (Str.ofString "ISO8859-2") 295)) :: (DictEntry.mk (PyData.keyHash v0 (Str.ofString "iso88593")) (Value.str (Str.ofString "iso88593") 511) (Value.str (Str.ofString "ISO8859-3") 298)) :: (DictEntry.mk (PyData.keyHash v0 (Str.ofString "iso88594")) (Value.str (Str.ofString "iso88594") 518) (Value.str (Str.ofString "ISO8859-4") 301)) :: (DictEntry.mk (PyData.keyHash v0 (Str.ofString "iso88595")) (Value.str (Str.ofString "iso88595") 525) (Value.str (Str.ofString "ISO8859-5") 304)) :: (DictEntry.mk (PyData.keyHash v0 (Str.ofString "iso88596")) (Value.str (Str.ofString "iso88596") 532) (Value.str (Str.ofString "ISO8859-6") 307)) :: (DictEntry.mk (PyData.keyHash v0 (Str.ofString "iso88597")) (Value.str (Str.ofString "iso88597") 539) (Value.str (Str.ofString "ISO8859-7") 310)) :: (DictEntry.mk (PyData.keyHash v0 (Str.ofString "iso88598")) (Value.str (Str.ofString "iso88598") 546) (Value.str (Str.ofString "ISO8859-8") 313)) :: (DictEntry.mk (PyData.keyHash v0 (Str.ofString "iso88599")) (Value.str (Str.ofString "iso88599") 553) (Value.str (Str.ofString "ISO8859-9") 316)) :: (DictEntry.mk (PyData.keyHash v0 (Str.ofString "koi8r")) (Value.str (Str.ofString "koi8r") 572) (Value.str (Str.ofString "KOI8-R") 334)) :: (DictEntry.mk (PyData.keyHash v0 (Str.ofString "koi8t")) (Value.str (Str.ofString "koi8t") 579) (Value.str (Str.ofString "KOI8-T") 336)) :: (DictEntry.mk (PyData.keyHash v0 (Str.ofString "koi8u")) (Value.str (Str.ofString "koi8u") 586) (Value.str (Str.ofString "KOI8-U") 338)) :: (DictEntry.mk (PyData.keyHash v0 (Str.ofString "latin1")) (Value.str (Str.ofString "latin1") 605) (Value.str (Str.ofString "ISO8859-1") 271)) :: (DictEntry.mk (PyData.keyHash v0 (Str.ofString "shiftjis")) (Value.str (Str.ofString "shiftjis") 630) (Value.str (Str.ofString "SJIS") 322)) :: (DictEntry.mk (PyData.keyHash v0 (Str.ofString "utf8")) (Value.str (Str.ofString "utf8") 643) (Value.str (Str.ofString "UTF-8") 332)) :: [])) 68) #[])) :: ((nat_lit 233), (Obj.mk (Value.type "dict") none (Data.dict (List.toArray ((DictEntry.mk (PyData.keyHash v0 (Str.ofString "!")) (Value.str (Str.ofString "!") 742) (Value.int (54 : Int) 740)) :: (DictEntry.mk (PyData.keyHash v0 (Str.ofString "!=")) (Value.str (Str.ofString "!=") 744) (Value.int (28 : Int) 688)) :: (DictEntry.mk (PyData.keyHash v0 (Str.ofString "%")) (Value.str (Str.ofString "%") 746) (Value.int (24 : Int) 680)) :: (DictEntry.mk (PyData.keyHash v0 (Str.ofString "%=")) (Value.str (Str.ofString "%=") 748) (Value.int (40 : Int) 712)) :: (DictEntry.mk (PyData.keyHash v0 (Str.ofString "&")) (Value.str (Str.ofString "&") 750) (Value.int (19 : Int) 670)) :: (DictEntry.mk (PyData.keyHash v0 (Str.ofString "&=")) (Value.str (Str.ofString "&=") 752) (Value.int (41 : Int) 714)) :: (DictEntry.mk (PyData.keyHash v0 (Str.ofString "(")) (Value.str (Str.ofString "(") 754) (Value.int (7 : Int) 646)) :: (DictEntry.mk (PyData.keyHash v0 (Str.ofString ")")) (Value.str (Str.ofString ")") 756) (Value.int (8 : Int) 648)) :: (DictEntry.mk (PyData.keyHash v0 (Str.ofString "*")) (Value.str (Str.ofString "*") 758) (Value.int (16 : Int) 664)) :: (DictEntry.mk (PyData.keyHash v0 (Str.ofString "**")) (Value.str (Str.ofString "**") 760) (Value.int (35 : Int) 702)) :: (DictEntry.mk (PyData.keyHash v0 (Str.ofString "**=")) (Value.str (Str.ofString "**=") 762) (Value.int (46 : Int) 724)) :: (DictEntry.mk (PyData.keyHash v0 (Str.ofString "*=")) (Value.str (Str.ofString "*=") 764) (Value.int (38 : Int) 708)) :: (DictEntry.mk (PyData.keyHash v0 (Str.ofString "+")) (Value.str (Str.ofString "+") 766) (Value.int (14 : Int) 660)) :: (DictEntry.mk (PyData.keyHash v0 (Str.ofString "+=")) (Value.str (Str.ofString "+=") 768) (Value.int (36 : Int) 704)) :: (DictEntry.mk (PyData.keyHash v0 (Str.ofString ",")) (Value.str (Str.ofString ",") 770) (Value.int (12 : Int) 656)) :: (DictEntry.mk (PyData.keyHash v0 (Str.ofString "-")) (Value.str (Str.ofString "-") 772) (Value.int (15 : Int) 662)) :: (DictEntry.mk (PyData.keyHash v0 (Str.ofString "-=")) (Value.str (Str.ofString "-=") 774) (Value.int (37 : Int) 706)) :: (DictEntry.mk (PyData.keyHash v0 (Str.ofString "->")) (Value.str (Str.ofString "->") 776) (Value.int (51 : Int) 734)) :: (DictEntry.mk (PyData.keyHash v0 (Str.ofString ".")) (Value.str (Str.ofString ".") 778) (Value.int (23 : Int) 678)) :: (DictEntry.mk (PyData.keyHash v0 (Str.ofString "...")) (Value.str (Str.ofString "...") 780) (Value.int (52 : Int) 736)) :: (DictEntry.mk (PyData.keyHash v0 (Str.ofString "/")) (Value.str (Str.ofString "/") 782) (Value.int (17 : Int) 666)) :: (DictEntry.mk (PyData.keyHash v0 (Str.ofString "//")) (Value.str (Str.ofString "//") 784) (Value.int (47 : Int) 726)) :: (DictEntry.mk (PyData.keyHash v0 (Str.ofString "//=")) (Value.str (Str.ofString "//=") 786) (Value.int (48 : Int) 728)) :: (DictEntry.mk (PyData.keyHash v0 (Str.ofString "/=")) (Value.str (Str.ofString "/=") 788) (Value.int (39 : Int) 710)) :: (DictEntry.mk (PyData.keyHash v0 (Str.ofString ":")) (Value.str (Str.ofString ":") 790) (Value.int (11 : Int) 654)) :: (DictEntry.mk (PyData.keyHash v0 (Str.ofString ":=")) (Value.str (Str.ofString ":=") 792) (Value.int (53 : Int) 738)) :: (DictEntry.mk (PyData.keyHash v0 (Str.ofString ";")) (Value.str (Str.ofString ";") 794) (Value.int (13 : Int) 658)) :: (DictEntry.mk (PyData.keyHash v0 (Str.ofString "<")) (Value.str (Str.ofString "<") 796) (Value.int (20 : Int) 672)) :: (DictEntry.mk (PyData.keyHash v0 (Str.ofString "<<")) (Value.str (Str.ofString "<<") 798) (Value.int (33 : Int) 698)) :: (DictEntry.mk (PyData.keyHash v0 (Str.ofString "<<=")) (Value.str (Str.ofString "<<=") 800) (Value.int (44 : Int) 720)) :: (DictEntry.mk (PyData.keyHash v0 (Str.ofString "<=")) (Value.str (Str.ofString "<=") 802) (Value.int (29 : Int) 690)) :: (DictEntry.mk (PyData.keyHash v0 (Str.ofString "=")) (Value.str (Str.ofString "=") 804) (Value.int (22 : Int) 676)) :: (DictEntry.mk (PyData.keyHash v0 (Str.ofString "==")) (Value.str (Str.ofString "==") 806) (Value.int (27 : Int) 686)) :: (DictEntry.mk (PyData.keyHash v0 (Str.ofString ">")) (Value.str (Str.ofString ">") 808) (Value.int (21 : Int) 674)) :: (DictEntry.mk (PyData.keyHash v0 (Str.ofString ">=")) (Value.str (Str.ofString ">=") 810) (Value.int (30 : Int) 692)) :: (DictEntry.mk (PyData.keyHash v0 (Str.ofString ">>")) (Value.str (Str.ofString ">>") 811) (Value.int (34 : Int) 700)) :: (DictEntry.mk (PyData.keyHash v0 (Str.ofString ">>=")) (Value.str (Str.ofString ">>=") 812) (Value.int (45 : Int) 722)) :: (DictEntry.mk (PyData.keyHash v0 (Str.ofString "@")) (Value.str (Str.ofString "@") 813) (Value.int (49 : Int) 730)) :: (DictEntry.mk (PyData.keyHash v0 (Str.ofString "@=")) (Value.str (Str.ofString "@=") 814) (Value.int (50 : Int) 732)) :: (DictEntry.mk (PyData.keyHash v0 (Str.ofString "[")) (Value.str (Str.ofString "[") 815) (Value.int (9 : Int) 650)) :: (DictEntry.mk (PyData.keyHash v0 (Str.ofString "]")) (Value.str (Str.ofString "]") 816) (Value.int (10 : Int) 652)) :: (DictEntry.mk (PyData.keyHash v0 (Str.ofString "^")) (Value.str (Str.ofString "^") 817) (Value.int (32 : Int) 696)) :: (DictEntry.mk (PyData.keyHash v0 (Str.ofString "^=")) (Value.str (Str.ofString "^=") 818) (Value.int (43 : Int) 718)) :: (DictEntry.mk (PyData.keyHash v0 (Str.ofString "{")) (Value.str (Str.ofString "{") 819) (Value.int (25 : Int) 682)) :: (DictEntry.mk (PyData.keyHash v0 (Str.ofString "|")) (Value.str (Str.ofString "|") 820) (Value.int (18 : Int) 668)) :: (DictEntry.mk (PyData.keyHash v0 (Str.ofString "|=")) (Value.str (Str.ofString "|=") 821) (Value.int (42 : Int) 716)) :: (DictEntry.mk (PyData.keyHash v0 (Str.ofString "}")) (Value.str (Str.ofString "}") 822) (Value.int (26 : Int) 684)) :: (DictEntry.mk (PyData.keyHash v0 (Str.ofString "~")) (Value.str (Str.ofString "~") 823) (Value.int (31 : Int) 694)) :: [])) 48) #[])) :: ((nat_lit 236), (Obj.mk (Value.type "tuple") none (Data.seq #[] 0) #[])) :: ((nat_lit 239), (Obj.mk (Value.type "code") none (Data.fields #[(Value.str (Str.ofString "_law_read") 841), (Value.str (Str.ofString "_law_read") 842), (Value.str (Str.ofString "/claim/cut.py") 843), (Value.int (98 : Int) 0), (Value.int (1 : Int) 0), (Value.int (0 : Int) 0), (Value.int (0 : Int) 0), (Value.int (3 : Int) 0), (Value.ref 236), (Value.bool Bool.true), (Value.int (181 : Int) 0), (Value.ref 237), Value.none, Value.none, Value.none, (Value.ref 238), (Value.int (844 : Int) 0), (Value.int (98 : Int) 0), (Value.str (Str.ofString "/claim/cut.py") 845)]) #[])) :: ((nat_lit 240), (Obj.mk (Value.type "function") none (Data.func (FuncData.mk (Str.ofString "_law_read") (Str.ofString "_law_read") a58 (FuncBody.stmts b58) c58 3 [] Value.none Value.none Value.none (Value.str (Str.ofString "law_il0204_01") 839) none (Value.ref 239) Value.none 0)) #[])) :: ((nat_lit 241), (Obj.mk (Value.type "tuple") none (Data.seq #[] 0) #[])) :: ((nat_lit 243), (Obj.mk (Value.type "tuple") none (Data.seq #[(Value.str (Str.ofString "runs") 850), (Value.str (Str.ofString "told") 851), (Value.str (Str.ofString "ahead") 852), (Value.str (Str.ofString "sign") 853), (Value.str (Str.ofString "count") 854)] 0) #[])) :: ((nat_lit 244), (Obj.mk (Value.type "tuple") none (Data.seq #[] 0) #[])) :: ((nat_lit 246), (Obj.mk (Value.type "code") none (Data.fields #[(Value.str (Str.ofString "_law_told") 847), (Value.str (Str.ofString "_law_told") 848), (Value.str (Str.ofString "/claim/cut.py") 849), (Value.int (112 : Int) 0), (Value.int (1 : Int) 0), (Value.int (0 : Int) 0), (Value.int (0 : Int) 0), (Value.int (3 : Int) 0), (Value.ref 241), (Value.bool Bool.true), (Value.int (181 : Int) 0), (Value.ref 242), Value.none, (Value.ref 243), (Value.ref 244), (Value.ref 245), (Value.int (855 : Int) 0), (Value.int (112 : Int) 0), (Value.str (Str.ofString "/claim/cut.py") 856)]) #[])) :: ((nat_lit 247), (Obj.mk (Value.type "function") none (Data.func (FuncData.mk (Str.ofString "_law_told") (Str.ofString "_law_told") a59 (FuncBody.stmts b59) c59 3 [] Value.none Value.none Value.none (Value.str (Str.ofString "law_il0204_01") 839) none (Value.ref 246) Value.none 0)) #[])) :: ((nat_lit 248), (Obj.mk (Value.type "tuple") none (Data.seq #[] 0) #[])) :: ((nat_lit 250), (Obj.mk (Value.type "tuple") none (Data.seq #[(Value.str (Str.ofString "left") 861), (Value.str (Str.ofString "right") 862)] 0) #[])) :: ((nat_lit 251), (Obj.mk (Value.type "tuple") none (Data.seq #[] 0) #[])) :: ((nat_lit 253), (Obj.mk (Value.type "code") none (Data.fields #[(Value.str (Str.ofString "_law_joined") 858), (Value.str (Str.ofString "_law_joined") 859), (Value.str (Str.ofString "/claim/cut.py") 860), (Value.int (130 : Int) 0), (Value.int (2 : Int) 0), (Value.int (0 : Int) 0), (Value.int (0 : Int) 0), (Value.int (3 : Int) 0), (Value.ref 248), (Value.bool Bool.true), (Value.int (181 : Int) 0), (Value.ref 249), Value.none, (Value.ref 250), (Value.ref 251), (Value.ref 252), (Value.int (863 : Int) 0), (Value.int (130 : Int) 0), (Value.str (Str.ofString "/claim/cut.py") 864)]) #[])) :: ((nat_lit 254), (Obj.mk (Value.type "function") none (Data.func (FuncData.mk (Str.ofString "_law_joined") (Str.ofString "_law_joined") a60 (FuncBody.stmts b60) c60 3 [] Value.none Value.none Value.none (Value.str (Str.ofString "law_il0204_01") 839) none (Value.ref 253) Value.none 0)) #[])) :: ((nat_lit 255), (Obj.mk (Value.type "tuple") none (Data.seq #[] 0) #[])) :: ((nat_lit 258), (Obj.mk (Value.type "code") none (Data.fields #[(Value.str (Str.ofString "_law_modified") 866), (Value.str (Str.ofString "_law_modified") 867), (Value.str (Str.ofString "/claim/cut.py") 868), (Value.int (134 : Int) 0), (Value.int (2 : Int) 0), (Value.int (0 : Int) 0), (Value.int (0 : Int) 0), (Value.int (3 : Int) 0), (Value.ref 255), (Value.bool Bool.true), (Value.int (181 : Int) 0), (Value.ref 256), Value.none, Value.none, Value.none, (Value.ref 257), (Value.int (869 : Int) 0), (Value.int (134 : Int) 0), (Value.str (Str.ofString "/claim/cut.py") 870)]) #[])) :: ((nat_lit 259), (Obj.mk (Value.type "function") none (Data.func (FuncData.mk (Str.ofString "_law_modified") (Str.ofString "_law_modified") a61 (FuncBody.stmts b61) c61 3 [] Value.none Value.none Value.none (Value.str (Str.ofString "law_il0204_01") 839) none (Value.ref 258) Value.none 0)) #[])) :: ((nat_lit 260), (Obj.mk (Value.type "tuple") none (Data.seq #[] 0) #[])) :: ((nat_lit 262), (Obj.mk (Value.type "tuple") none (Data.seq #[(Value.str (Str.ofString "name") 875), (Value.str (Str.ofString "refused") 876), (Value.str (Str.ofString "thing") 877), (Value.str (Str.ofString "error") 878)] 0) #[])) :: ((nat_lit 263), (Obj.mk (Value.type "tuple") none (Data.seq #[] 0) #[])) :: ((nat_lit 265), (Obj.mk (Value.type "code") none (Data.fields #[(Value.str (Str.ofString "_law_refused") 872), (Value.str (Str.ofString "_law_refused") 873), (Value.str (Str.ofString "/claim/cut.py") 874), (Value.int (143 : Int) 0), (Value.int (1 : Int) 0), (Value.int (0 : Int) 0), (Value.int (0 : Int) 0), (Value.int (3 : Int) 0), (Value.ref 260), (Value.bool Bool.true), (Value.int (181 : Int) 0), (Value.ref 261), Value.none, (Value.ref 262), (Value.ref 263), (Value.ref 264), (Value.int (879 : Int) 0), (Value.int (143 : Int) 0), (Value.str (Str.ofString "/claim/cut.py") 880)]) #[])) :: ((nat_lit 266), (Obj.mk (Value.type "function") none (Data.func (FuncData.mk (Str.ofString "_law_refused") (Str.ofString "_law_refused") a62 (FuncBody.stmts b62) c62 3 [] Value.none Value.none Value.none (Value.str (Str.ofString "law_il0204_01") 839) none (Value.ref 265) Value.none 0)) #[])) :: ((nat_lit 267), (Obj.mk (Value.type "tuple") none (Data.seq #[] 0) #[])) :: ((nat_lit 270), (Obj.mk (Value.type "code") none (Data.fields #[(Value.str (Str.ofString "law") 882), (Value.str (Str.ofString "law") 883), (Value.str (Str.ofString "/claim/cut.py") 884), (Value.int (152 : Int) 0), (Value.int (1 : Int) 0), (Value.int (0 : Int) 0), (Value.int (0 : Int) 0), (Value.int (3 : Int) 0), (Value.ref 267), (Value.bool Bool.true), (Value.int (181 : Int) 0), (Value.ref 268), Value.none, Value.none, Value.none, (Value.ref 269), (Value.int (885 : Int) 0), (Value.int (152 : Int) 0), (Value.str (Str.ofString "/claim/cut.py") 886)]) #[])) :: ((nat_lit 271), (Obj.mk (Value.type "function") none (Data.func (FuncData.mk (Str.ofString "law") (Str.ofString "law") a63 (FuncBody.stmts b63) c63 3 [] Value.none Value.none Value.none (Value.str (Str.ofString "law_il0204_01") 839) none (Value.ref 270) Value.none 0)) #[])) :: []))
noncomputable def hd.view_39 : Program := by
  refine (?mf : ∀ {s0 s1 s2 s3 s4 s5 s6 s7 s8 s9 s10 s11 s12 s13 s14 s15 s16 s17 s18 s19 s20 s21 s22 s23 s24 s25 s26 s27 s28 s29 s30 s31 s32 s33 s34 s35 s36 s37 s38 s39 s40 s41 s42 s43 s44 s45 s46 s47 s48 s49 s50 s51 s52 s53 s54 s55 s56 s57 s58 s59 s60 s61 s62 s63 m1 m2 m3 m4 q1 q2 q3 q4 q5}, PySem.Challenge.pw_il0204_01 = Program.mk (PySem.Module.mk (s0 :: s1 :: s2 :: s3 :: s4 :: s5 :: s6 :: s7 :: s8 :: s9 :: s10 :: s11 :: s12 :: s13 :: s14 :: s15 :: s16 :: s17 :: s18 :: s19 :: s20 :: s21 :: s22 :: s23 :: s24 :: s25 :: s26 :: s27 :: s28 :: s29 :: s30 :: s31 :: s32 :: s33 :: s34 :: s35 :: s36 :: s37 :: s38 :: s39 :: s40 :: s41 :: s42 :: s43 :: s44 :: s45 :: s46 :: s47 :: s48 :: s49 :: s50 :: s51 :: s52 :: s53 :: s54 :: s55 :: s56 :: s57 :: s58 :: s59 :: s60 :: s61 :: s62 :: s63 :: []) m1 m2 m3 m4) q1 q2 q3 q4 q5 → Program) rfl
  exact fun {s0 s1 s2 s3 s4 s5 s6 s7 s8 s9 s10 s11 s12 s13 s14 s15 s16 s17 s18 s19 s20 s21 s22 s23 s24 s25 s26 s27 s28 s29 s30 s31 s32 s33 s34 s35 s36 s37 s38 s39 s40 s41 s42 s43 s44 s45 s46 s47 s48 s49 s50 s51 s52 s53 s54 s55 s56 s57 s58 s59 s60 s61 s62 s63 m1 m2 m3 m4 q1 q2 q3 q4 q5} _ => (let v0 : Program := ((OpenRow.toRowW (OpenLaw.row Challenge.rw_il0204_01))).1; (Program.mk (let v1 : PySem.Module := (Program.main ((OpenRow.toRowW (OpenLaw.row Challenge.rw_il0204_01))).1); (PySem.Module.mk (s0 :: s2 :: s3 :: s4 :: s5 :: s8 :: s9 :: s10 :: s11 :: s12 :: s13 :: s14 :: s15 :: s16 :: s17 :: s18 :: s19 :: s20 :: s21 :: s22 :: s23 :: s24 :: s25 :: s26 :: s27 :: s28 :: s29 :: s30 :: s31 :: s32 :: s33 :: s34 :: s35 :: s36 :: s37 :: s38 :: s39 :: s40 :: s41 :: s42 :: s43 :: s44 :: s45 :: s46 :: s47 :: s48 :: s49 :: s50 :: s51 :: s52 :: s53 :: s54 :: s55 :: s56 :: s58 :: s59 :: s60 :: s61 :: s62 :: s63 :: []) (Module.scope v1) (Module.futureAnnotations v1) (Module.file v1) (Module.more v1))) (Program.modules v0) (Program.parses v0) (Program.absent v0) (Program.harvested v0) (Program.given v0)))
theorem hd.p_opening : ((opening ((OpenRow.toRowW (OpenLaw.row Challenge.rw_il0204_01))).1) = (plainProg (Scope.names (Module.scope (Program.main ((OpenRow.toRowW (OpenLaw.row Challenge.rw_il0204_01))).1))))) := by
  kernel_rfl
theorem hd.p_fence : ((v0 : Shared) → ((fenceModules? ((OpenRow.toRowW (OpenLaw.row Challenge.rw_il0204_01))).1 v0) = (some v0))) := by
  intro v0
  kernel_rfl
theorem hd.p_size : ((v0 : World) → (((Bool.and (Heap.isNs (boot_heap (World.params v0)) mainGlobals) (@BEq.beq.{0} Nat (@instBEqOfDecidableEq.{0} Nat instDecidableEqNat) (@Array.size.{0} GenState (@Array.mk.{0} GenState [])) 0)), ((@Array.size.{0} Obj (Heap.objs (boot_heap (World.params v0)))), (Heap.nsMap (boot_heap (World.params v0)) mainGlobals (Str.ofString "__annotations__")))) = (Bool.true, ((nat_lit 11), (some (Value.ref 6)))))) := by
  intro v0
  rewrite [PySem.W.Fast.te8920871248978507458]
  kernel_rfl
noncomputable def hd.o_275 : ((v0 : Params) → Obj) := (fun (v0 : Params) => (Obj.mk (Value.type "dict") none (Data.dict (List.toArray ((DictEntry.mk (PyData.keyHash v0 hd.s_0) (Value.str hd.s_0 165) (Value.str hd.s_1 839)) :: (DictEntry.mk (PyData.keyHash v0 hd.s_2) (Value.str hd.s_2 166) Value.none) :: (DictEntry.mk (PyData.keyHash v0 hd.s_3) (Value.str hd.s_3 167) Value.none) :: (DictEntry.mk (PyData.keyHash v0 hd.s_4) (Value.str hd.s_4 168) (Value.builtin "__main__.__loader__#opaque")) :: (DictEntry.mk (PyData.keyHash v0 hd.s_5) (Value.str hd.s_5 169) Value.none) :: (DictEntry.mk (PyData.keyHash v0 hd.s_6) (Value.str hd.s_6 170) (Value.ref 6)) :: (DictEntry.mk (PyData.keyHash v0 hd.s_7) (Value.str hd.s_7 171) (Value.ref 4)) :: (DictEntry.mk (PyData.keyHash v0 hd.s_8) (Value.str hd.s_8 173) (Value.str hd.s_9 172)) :: (DictEntry.mk (PyData.keyHash v0 hd.s_10) (Value.str hd.s_10 174) Value.none) :: (DictEntry.mk (PyData.keyHash v0 hd.s_11) (Value.str hd.s_11 193) (Value.ref 21)) :: (DictEntry.mk (PyData.keyHash v0 hd.s_12) (Value.str hd.s_12 205) (Value.ref 28)) :: (DictEntry.mk (PyData.keyHash v0 hd.s_13) (Value.str hd.s_13 215) (Value.ref 35)) :: (DictEntry.mk (PyData.keyHash v0 hd.s_14) (Value.str hd.s_14 224) (Value.ref 42)) :: (DictEntry.mk (PyData.keyHash v0 hd.s_15) (Value.str hd.s_15 357) (Value.ref 43)) :: (DictEntry.mk (PyData.keyHash v0 hd.s_16) (Value.str hd.s_16 647) (Value.int (7 : Int) 646)) :: (DictEntry.mk (PyData.keyHash v0 hd.s_17) (Value.str hd.s_17 649) (Value.int (8 : Int) 648)) :: (DictEntry.mk (PyData.keyHash v0 hd.s_18) (Value.str hd.s_18 651) (Value.int (9 : Int) 650)) :: (DictEntry.mk (PyData.keyHash v0 hd.s_19) (Value.str hd.s_19 653) (Value.int (10 : Int) 652)) :: (DictEntry.mk (PyData.keyHash v0 hd.s_20) (Value.str hd.s_20 655) (Value.int (11 : Int) 654)) :: (DictEntry.mk (PyData.keyHash v0 hd.s_21) (Value.str hd.s_21 657) (Value.int (12 : Int) 656)) :: (DictEntry.mk (PyData.keyHash v0 hd.s_22) (Value.str hd.s_22 659) (Value.int (13 : Int) 658)) :: (DictEntry.mk (PyData.keyHash v0 hd.s_23) (Value.str hd.s_23 661) (Value.int (14 : Int) 660)) :: (DictEntry.mk (PyData.keyHash v0 hd.s_24) (Value.str hd.s_24 663) (Value.int (15 : Int) 662)) :: (DictEntry.mk (PyData.keyHash v0 hd.s_25) (Value.str hd.s_25 665) (Value.int (16 : Int) 664)) :: (DictEntry.mk (PyData.keyHash v0 hd.s_26) (Value.str hd.s_26 667) (Value.int (17 : Int) 666)) :: (DictEntry.mk (PyData.keyHash v0 hd.s_27) (Value.str hd.s_27 669) (Value.int (18 : Int) 668)) :: (DictEntry.mk (PyData.keyHash v0 hd.s_28) (Value.str hd.s_28 671) (Value.int (19 : Int) 670)) :: (DictEntry.mk (PyData.keyHash v0 hd.s_29) (Value.str hd.s_29 673) (Value.int (20 : Int) 672)) :: (DictEntry.mk (PyData.keyHash v0 hd.s_30) (Value.str hd.s_30 675) (Value.int (21 : Int) 674)) :: (DictEntry.mk (PyData.keyHash v0 hd.s_31) (Value.str hd.s_31 677) (Value.int (22 : Int) 676)) :: (DictEntry.mk (PyData.keyHash v0 hd.s_32) (Value.str hd.s_32 679) (Value.int (23 : Int) 678)) :: (DictEntry.mk (PyData.keyHash v0 hd.s_33) (Value.str hd.s_33 681) (Value.int (24 : Int) 680)) :: (DictEntry.mk (PyData.keyHash v0 hd.s_34) (Value.str hd.s_34 683) (Value.int (25 : Int) 682)) :: (DictEntry.mk (PyData.keyHash v0 hd.s_35) (Value.str hd.s_35 685) (Value.int (26 : Int) 684)) :: (DictEntry.mk (PyData.keyHash v0 hd.s_36) (Value.str hd.s_36 687) (Value.int (27 : Int) 686)) :: (DictEntry.mk (PyData.keyHash v0 hd.s_37) (Value.str hd.s_37 689) (Value.int (28 : Int) 688)) :: (DictEntry.mk (PyData.keyHash v0 hd.s_38) (Value.str hd.s_38 691) (Value.int (29 : Int) 690)) :: (DictEntry.mk (PyData.keyHash v0 hd.s_39) (Value.str hd.s_39 693) (Value.int (30 : Int) 692)) :: (DictEntry.mk (PyData.keyHash v0 hd.s_40) (Value.str hd.s_40 695) (Value.int (31 : Int) 694)) :: (DictEntry.mk (PyData.keyHash v0 hd.s_41) (Value.str hd.s_41 697) (Value.int (32 : Int) 696)) :: (DictEntry.mk (PyData.keyHash v0 hd.s_42) (Value.str hd.s_42 699) (Value.int (33 : Int) 698)) :: (DictEntry.mk (PyData.keyHash v0 hd.s_43) (Value.str hd.s_43 701) (Value.int (34 : Int) 700)) :: (DictEntry.mk (PyData.keyHash v0 hd.s_44) (Value.str hd.s_44 703) (Value.int (35 : Int) 702)) :: (DictEntry.mk (PyData.keyHash v0 hd.s_45) (Value.str hd.s_45 705) (Value.int (36 : Int) 704)) :: (DictEntry.mk (PyData.keyHash v0 hd.s_46) (Value.str hd.s_46 707) (Value.int (37 : Int) 706)) :: (DictEntry.mk (PyData.keyHash v0 hd.s_47) (Value.str hd.s_47 709) (Value.int (38 : Int) 708)) :: (DictEntry.mk (PyData.keyHash v0 hd.s_48) (Value.str hd.s_48 711) (Value.int (39 : Int) 710)) :: (DictEntry.mk (PyData.keyHash v0 hd.s_49) (Value.str hd.s_49 713) (Value.int (40 : Int) 712)) :: (DictEntry.mk (PyData.keyHash v0 hd.s_50) (Value.str hd.s_50 715) (Value.int (41 : Int) 714)) :: (DictEntry.mk (PyData.keyHash v0 hd.s_51) (Value.str hd.s_51 717) (Value.int (42 : Int) 716)) :: (DictEntry.mk (PyData.keyHash v0 hd.s_52) (Value.str hd.s_52 719) (Value.int (43 : Int) 718)) :: (DictEntry.mk (PyData.keyHash v0 hd.s_53) (Value.str hd.s_53 721) (Value.int (44 : Int) 720)) :: (DictEntry.mk (PyData.keyHash v0 hd.s_54) (Value.str hd.s_54 723) (Value.int (45 : Int) 722)) :: (DictEntry.mk (PyData.keyHash v0 hd.s_55) (Value.str hd.s_55 725) (Value.int (46 : Int) 724)) :: (DictEntry.mk (PyData.keyHash v0 hd.s_56) (Value.str hd.s_56 727) (Value.int (47 : Int) 726)) :: (DictEntry.mk (PyData.keyHash v0 hd.s_57) (Value.str hd.s_57 729) (Value.int (48 : Int) 728)) :: (DictEntry.mk (PyData.keyHash v0 hd.s_58) (Value.str hd.s_58 731) (Value.int (49 : Int) 730)) :: (DictEntry.mk (PyData.keyHash v0 hd.s_59) (Value.str hd.s_59 733) (Value.int (50 : Int) 732)) :: (DictEntry.mk (PyData.keyHash v0 hd.s_60) (Value.str hd.s_60 735) (Value.int (51 : Int) 734)) :: (DictEntry.mk (PyData.keyHash v0 hd.s_61) (Value.str hd.s_61 737) (Value.int (52 : Int) 736)) :: (DictEntry.mk (PyData.keyHash v0 hd.s_62) (Value.str hd.s_62 739) (Value.int (53 : Int) 738)) :: (DictEntry.mk (PyData.keyHash v0 hd.s_63) (Value.str hd.s_63 741) (Value.int (54 : Int) 740)) :: (DictEntry.mk (PyData.keyHash v0 hd.s_64) (Value.str hd.s_64 838) (Value.ref 233)) :: (DictEntry.mk (PyData.keyHash v0 hd.s_65) (Value.str hd.s_65 846) (Value.ref 240)) :: (DictEntry.mk (PyData.keyHash v0 hd.s_66) (Value.str hd.s_66 857) (Value.ref 247)) :: (DictEntry.mk (PyData.keyHash v0 hd.s_67) (Value.str hd.s_67 865) (Value.ref 254)) :: (DictEntry.mk (PyData.keyHash v0 hd.s_68) (Value.str hd.s_68 871) (Value.ref 259)) :: (DictEntry.mk (PyData.keyHash v0 hd.s_69) (Value.str hd.s_69 881) (Value.ref 266)) :: (DictEntry.mk (PyData.keyHash v0 hd.s_70) (Value.str hd.s_70 887) (Value.ref 271)) :: [])) 73) #[]))
noncomputable def hd.o_43 : ((v0 : Params) → Obj) := (fun (v0 : Params) => (Obj.mk (Value.type "tuple") none (Data.seq #[] 0) #[]))
noncomputable def hd.o_276 : ((v0 : Params) → Obj) := (fun (v0 : Params) => (Obj.mk Value.none none (Data.fields (List.toArray ((Value.int (1 : Int) 0) :: (Value.int (0 : Int) 0) :: (Value.ref 20) :: (Value.int (5 : Int) 0) :: (Value.int (0 : Int) 0) :: (Value.ref 27) :: (Value.int (22 : Int) 0) :: (Value.int (0 : Int) 0) :: (Value.ref 34) :: (Value.int (32 : Int) 0) :: (Value.int (0 : Int) 0) :: (Value.ref 41) :: (Value.int (98 : Int) 0) :: (Value.int (0 : Int) 0) :: (Value.ref 239) :: (Value.int (112 : Int) 0) :: (Value.int (0 : Int) 0) :: (Value.ref 246) :: (Value.int (130 : Int) 0) :: (Value.int (0 : Int) 0) :: (Value.ref 253) :: (Value.int (134 : Int) 0) :: (Value.int (0 : Int) 0) :: (Value.ref 258) :: (Value.int (143 : Int) 0) :: (Value.int (0 : Int) 0) :: (Value.ref 265) :: (Value.int (152 : Int) 0) :: (Value.int (0 : Int) 0) :: (Value.ref 270) :: []))) #[]))
noncomputable def hd.o_45 : ((v0 : Params) → Obj) := (fun (v0 : Params) => (Obj.mk (Value.type "code") none (Data.fields #[(Value.str hd.s_71 182), (Value.str hd.s_71 183), (Value.str hd.s_9 184), (Value.int (1 : Int) 0), (Value.int (0 : Int) 0), (Value.int (0 : Int) 0), (Value.int (0 : Int) 0), (Value.int (0 : Int) 0), (Value.ref 11), (Value.bool Bool.false), (Value.int (181 : Int) 0), (Value.ref 12), Value.none, Value.none, Value.none, Value.none, (Value.int (185 : Int) 0), (Value.int (1 : Int) 0), (Value.str hd.s_9 186)]) #[]))
noncomputable def hd.o_46 : ((v0 : Params) → Obj) := (fun (v0 : Params) => (Obj.mk (Value.type "frame") none Data.plain #[(some (Value.ref 13)), (some (Value.ref 3)), (some (Value.ref 3)), none, (some (Value.str hd.s_72 164)), none, (some (Value.ref 0))]))
noncomputable def hd.o_51 : ((v0 : Params) → Obj) := (fun (v0 : Params) => (Obj.mk (Value.type "tuple") none (Data.seq #[] 0) #[]))
noncomputable def hd.o_52 : ((v0 : Params) → Obj) := (fun (v0 : Params) => (Obj.mk Value.none none (Data.fields #[]) #[]))
noncomputable def hd.o_53 : ((v0 : Params) → Obj) := (fun (v0 : Params) => (Obj.mk (Value.type "tuple") none (Data.seq #[(Value.str hd.s_73 190)] 0) #[]))
noncomputable def hd.o_54 : ((v0 : Params) → Obj) := (fun (v0 : Params) => (Obj.mk (Value.type "tuple") none (Data.seq #[] 0) #[]))
noncomputable def hd.o_55 : ((v0 : Params) → Obj) := (fun (v0 : Params) => (Obj.mk Value.none none (Data.func (FuncData.mk hd.s_11 hd.s_11 (hd.fa 0) (FuncBody.stmts (hd.fb 0)) (hd.fc 0) 0 [] Value.none Value.none Value.none Value.none none Value.none Value.none 0)) #[]))
noncomputable def hd.o_56 : ((v0 : Params) → Obj) := (fun (v0 : Params) => (Obj.mk (Value.type "code") none (Data.fields #[(Value.str hd.s_11 187), (Value.str hd.s_11 188), (Value.str hd.s_9 189), (Value.int (1 : Int) 0), (Value.int (1 : Int) 0), (Value.int (0 : Int) 0), (Value.int (0 : Int) 0), (Value.int (3 : Int) 0), (Value.ref 15), (Value.bool Bool.true), (Value.int (181 : Int) 0), (Value.ref 16), Value.none, (Value.ref 17), (Value.ref 18), (Value.ref 19), (Value.int (191 : Int) 0), (Value.int (1 : Int) 0), (Value.str hd.s_9 192)]) #[]))
noncomputable def hd.o_57 : ((v0 : Params) → Obj) := (fun (v0 : Params) => (Obj.mk (Value.type "function") none (Data.func (FuncData.mk hd.s_11 hd.s_11 (hd.fa 0) (FuncBody.stmts (hd.fb 0)) (hd.fc 0) 3 [] Value.none Value.none Value.none (Value.str hd.s_72 164) none (Value.ref 20) Value.none 0)) #[]))
noncomputable def hd.o_58 : ((v0 : Params) → Obj) := (fun (v0 : Params) => (Obj.mk (Value.type "tuple") none (Data.seq #[] 0) #[]))
noncomputable def hd.o_59 : ((v0 : Params) → Obj) := (fun (v0 : Params) => (Obj.mk Value.none none (Data.fields #[]) #[]))
noncomputable def hd.o_60 : ((v0 : Params) → Obj) := (fun (v0 : Params) => (Obj.mk (Value.type "tuple") none (Data.seq #[(Value.str hd.s_74 199), (Value.str hd.s_75 200), (Value.str hd.s_76 201), (Value.str hd.s_77 202)] 0) #[]))
noncomputable def hd.o_61 : ((v0 : Params) → Obj) := (fun (v0 : Params) => (Obj.mk (Value.type "tuple") none (Data.seq #[] 0) #[]))
noncomputable def hd.o_62 : ((v0 : Params) → Obj) := (fun (v0 : Params) => (Obj.mk Value.none none (Data.func (FuncData.mk hd.s_12 hd.s_12 (hd.fa 2) (FuncBody.stmts (hd.fb 2)) (hd.fc 2) 0 [] Value.none Value.none Value.none Value.none none Value.none Value.none 0)) #[]))
noncomputable def hd.o_63 : ((v0 : Params) → Obj) := (fun (v0 : Params) => (Obj.mk (Value.type "code") none (Data.fields #[(Value.str hd.s_12 196), (Value.str hd.s_12 197), (Value.str hd.s_9 198), (Value.int (5 : Int) 0), (Value.int (2 : Int) 0), (Value.int (0 : Int) 0), (Value.int (0 : Int) 0), (Value.int (3 : Int) 0), (Value.ref 22), (Value.bool Bool.true), (Value.int (181 : Int) 0), (Value.ref 23), Value.none, (Value.ref 24), (Value.ref 25), (Value.ref 26), (Value.int (203 : Int) 0), (Value.int (5 : Int) 0), (Value.str hd.s_9 204)]) #[]))
noncomputable def hd.o_64 : ((v0 : Params) → Obj) := (fun (v0 : Params) => (Obj.mk (Value.type "function") none (Data.func (FuncData.mk hd.s_12 hd.s_12 (hd.fa 2) (FuncBody.stmts (hd.fb 2)) (hd.fc 2) 3 [] Value.none Value.none Value.none (Value.str hd.s_86 194) none (Value.ref 27) Value.none 0)) #[]))
noncomputable def hd.o_65 : ((v0 : Params) → Obj) := (fun (v0 : Params) => (Obj.mk (Value.type "tuple") none (Data.seq #[] 0) #[]))
noncomputable def hd.o_66 : ((v0 : Params) → Obj) := (fun (v0 : Params) => (Obj.mk Value.none none (Data.fields #[]) #[]))
noncomputable def hd.o_67 : ((v0 : Params) → Obj) := (fun (v0 : Params) => (Obj.mk (Value.type "tuple") none (Data.seq #[(Value.str hd.s_74 209), (Value.str hd.s_87 210), (Value.str hd.s_83 211), (Value.str hd.s_75 212)] 0) #[]))
noncomputable def hd.o_68 : ((v0 : Params) → Obj) := (fun (v0 : Params) => (Obj.mk (Value.type "tuple") none (Data.seq #[] 0) #[]))
noncomputable def hd.o_69 : ((v0 : Params) → Obj) := (fun (v0 : Params) => (Obj.mk Value.none none (Data.func (FuncData.mk hd.s_13 hd.s_13 (hd.fa 3) (FuncBody.stmts (hd.fb 3)) (hd.fc 3) 0 [] Value.none Value.none Value.none Value.none none Value.none Value.none 0)) #[]))
noncomputable def hd.o_70 : ((v0 : Params) → Obj) := (fun (v0 : Params) => (Obj.mk (Value.type "code") none (Data.fields #[(Value.str hd.s_13 206), (Value.str hd.s_13 207), (Value.str hd.s_9 208), (Value.int (22 : Int) 0), (Value.int (2 : Int) 0), (Value.int (0 : Int) 0), (Value.int (0 : Int) 0), (Value.int (3 : Int) 0), (Value.ref 29), (Value.bool Bool.true), (Value.int (181 : Int) 0), (Value.ref 30), Value.none, (Value.ref 31), (Value.ref 32), (Value.ref 33), (Value.int (213 : Int) 0), (Value.int (22 : Int) 0), (Value.str hd.s_9 214)]) #[]))
noncomputable def hd.o_71 : ((v0 : Params) → Obj) := (fun (v0 : Params) => (Obj.mk (Value.type "function") none (Data.func (FuncData.mk hd.s_13 hd.s_13 (hd.fa 3) (FuncBody.stmts (hd.fb 3)) (hd.fc 3) 3 [] Value.none Value.none Value.none (Value.str hd.s_86 194) none (Value.ref 34) Value.none 0)) #[]))
noncomputable def hd.o_72 : ((v0 : Params) → Obj) := (fun (v0 : Params) => (Obj.mk (Value.type "tuple") none (Data.seq #[] 0) #[]))
noncomputable def hd.o_73 : ((v0 : Params) → Obj) := (fun (v0 : Params) => (Obj.mk Value.none none (Data.fields #[]) #[]))
noncomputable def hd.o_74 : ((v0 : Params) → Obj) := (fun (v0 : Params) => (Obj.mk (Value.type "tuple") none (Data.seq #[(Value.str hd.s_95 219), (Value.str hd.s_96 220), (Value.str hd.s_75 221)] 0) #[]))
noncomputable def hd.o_75 : ((v0 : Params) → Obj) := (fun (v0 : Params) => (Obj.mk (Value.type "tuple") none (Data.seq #[] 0) #[]))
noncomputable def hd.o_76 : ((v0 : Params) → Obj) := (fun (v0 : Params) => (Obj.mk Value.none none (Data.func (FuncData.mk hd.s_14 hd.s_14 (hd.fa 4) (FuncBody.stmts (hd.fb 4)) (hd.fc 4) 0 [] Value.none Value.none Value.none Value.none none Value.none Value.none 0)) #[]))
noncomputable def hd.o_77 : ((v0 : Params) → Obj) := (fun (v0 : Params) => (Obj.mk (Value.type "code") none (Data.fields #[(Value.str hd.s_14 216), (Value.str hd.s_14 217), (Value.str hd.s_9 218), (Value.int (32 : Int) 0), (Value.int (1 : Int) 0), (Value.int (0 : Int) 0), (Value.int (0 : Int) 0), (Value.int (3 : Int) 0), (Value.ref 36), (Value.bool Bool.true), (Value.int (181 : Int) 0), (Value.ref 37), Value.none, (Value.ref 38), (Value.ref 39), (Value.ref 40), (Value.int (222 : Int) 0), (Value.int (32 : Int) 0), (Value.str hd.s_9 223)]) #[]))
noncomputable def hd.o_78 : ((v0 : Params) → Obj) := (fun (v0 : Params) => (Obj.mk (Value.type "function") none (Data.func (FuncData.mk hd.s_14 hd.s_14 (hd.fa 4) (FuncBody.stmts (hd.fb 4)) (hd.fc 4) 3 [] Value.none Value.none Value.none (Value.str hd.s_86 194) none (Value.ref 41) Value.none 0)) #[]))
noncomputable def hd.o_85 : ((v0 : Params) → Obj) := (fun (v0 : Params) => (Obj.mk (Value.type "dict") none (Data.dict (List.toArray ((DictEntry.mk (PyData.keyHash v0 hd.s_101) (Value.str hd.s_101 225) (Value.str hd.s_97 226)) :: (DictEntry.mk (PyData.keyHash v0 hd.s_102) (Value.str hd.s_102 228) (Value.str hd.s_97 229)) :: (DictEntry.mk (PyData.keyHash v0 hd.s_103) (Value.str hd.s_103 231) (Value.str hd.s_93 232)) :: (DictEntry.mk (PyData.keyHash v0 hd.s_104) (Value.str hd.s_104 234) (Value.str hd.s_105 235)) :: (DictEntry.mk (PyData.keyHash v0 hd.s_106) (Value.str hd.s_106 237) (Value.str hd.s_105 238)) :: (DictEntry.mk (PyData.keyHash v0 hd.s_107) (Value.str hd.s_107 240) (Value.str hd.s_108 241)) :: (DictEntry.mk (PyData.keyHash v0 hd.s_109) (Value.str hd.s_109 243) (Value.str hd.s_110 244)) :: (DictEntry.mk (PyData.keyHash v0 hd.s_111) (Value.str hd.s_111 246) (Value.str hd.s_112 247)) :: (DictEntry.mk (PyData.keyHash v0 hd.s_113) (Value.str hd.s_113 249) (Value.str hd.s_114 250)) :: (DictEntry.mk (PyData.keyHash v0 hd.s_115) (Value.str hd.s_115 252) (Value.str hd.s_116 253)) :: (DictEntry.mk (PyData.keyHash v0 hd.s_117) (Value.str hd.s_117 255) (Value.str hd.s_93 256)) :: (DictEntry.mk (PyData.keyHash v0 hd.s_118) (Value.str hd.s_118 258) (Value.str hd.s_119 259)) :: (DictEntry.mk (PyData.keyHash v0 hd.s_120) (Value.str hd.s_120 261) (Value.str hd.s_121 262)) :: (DictEntry.mk (PyData.keyHash v0 hd.s_122) (Value.str hd.s_122 264) (Value.str hd.s_91 265)) :: (DictEntry.mk (PyData.keyHash v0 hd.s_123) (Value.str hd.s_123 267) (Value.str hd.s_93 268)) :: (DictEntry.mk (PyData.keyHash v0 hd.s_124) (Value.str hd.s_124 270) (Value.str hd.s_93 271)) :: (DictEntry.mk (PyData.keyHash v0 hd.s_125) (Value.str hd.s_125 273) (Value.str hd.s_93 274)) :: (DictEntry.mk (PyData.keyHash v0 hd.s_126) (Value.str hd.s_126 276) (Value.str hd.s_127 277)) :: (DictEntry.mk (PyData.keyHash v0 hd.s_128) (Value.str hd.s_128 279) (Value.str hd.s_129 280)) :: (DictEntry.mk (PyData.keyHash v0 hd.s_130) (Value.str hd.s_130 282) (Value.str hd.s_131 283)) :: (DictEntry.mk (PyData.keyHash v0 hd.s_132) (Value.str hd.s_132 285) (Value.str hd.s_133 286)) :: (DictEntry.mk (PyData.keyHash v0 hd.s_134) (Value.str hd.s_134 288) (Value.str hd.s_91 289)) :: (DictEntry.mk (PyData.keyHash v0 hd.s_135) (Value.str hd.s_135 291) (Value.str hd.s_136 292)) :: (DictEntry.mk (PyData.keyHash v0 hd.s_137) (Value.str hd.s_137 294) (Value.str hd.s_119 295)) :: (DictEntry.mk (PyData.keyHash v0 hd.s_138) (Value.str hd.s_138 297) (Value.str hd.s_139 298)) :: (DictEntry.mk (PyData.keyHash v0 hd.s_140) (Value.str hd.s_140 300) (Value.str hd.s_141 301)) :: (DictEntry.mk (PyData.keyHash v0 hd.s_142) (Value.str hd.s_142 303) (Value.str hd.s_121 304)) :: (DictEntry.mk (PyData.keyHash v0 hd.s_143) (Value.str hd.s_143 306) (Value.str hd.s_144 307)) :: (DictEntry.mk (PyData.keyHash v0 hd.s_145) (Value.str hd.s_145 309) (Value.str hd.s_146 310)) :: (DictEntry.mk (PyData.keyHash v0 hd.s_147) (Value.str hd.s_147 312) (Value.str hd.s_148 313)) :: (DictEntry.mk (PyData.keyHash v0 hd.s_149) (Value.str hd.s_149 315) (Value.str hd.s_150 316)) :: (DictEntry.mk (PyData.keyHash v0 hd.s_151) (Value.str hd.s_151 318) (Value.str hd.s_105 319)) :: (DictEntry.mk (PyData.keyHash v0 hd.s_152) (Value.str hd.s_152 321) (Value.str hd.s_153 322)) :: (DictEntry.mk (PyData.keyHash v0 hd.s_154) (Value.str hd.s_154 324) (Value.str hd.s_155 325)) :: (DictEntry.mk (PyData.keyHash v0 hd.s_156) (Value.str hd.s_156 327) (Value.str hd.s_108 328)) :: (DictEntry.mk (PyData.keyHash v0 hd.s_157) (Value.str hd.s_157 329) (Value.str hd.s_158 330)) :: (DictEntry.mk (PyData.keyHash v0 hd.s_159) (Value.str hd.s_159 331) (Value.str hd.s_92 332)) :: (DictEntry.mk (PyData.keyHash v0 hd.s_160) (Value.str hd.s_160 333) (Value.str hd.s_161 334)) :: (DictEntry.mk (PyData.keyHash v0 hd.s_162) (Value.str hd.s_162 335) (Value.str hd.s_163 336)) :: (DictEntry.mk (PyData.keyHash v0 hd.s_164) (Value.str hd.s_164 337) (Value.str hd.s_165 338)) :: (DictEntry.mk (PyData.keyHash v0 hd.s_166) (Value.str hd.s_166 339) (Value.str hd.s_167 340)) :: (DictEntry.mk (PyData.keyHash v0 hd.s_168) (Value.str hd.s_168 341) (Value.str hd.s_112 342)) :: (DictEntry.mk (PyData.keyHash v0 hd.s_169) (Value.str hd.s_169 343) (Value.str hd.s_114 344)) :: (DictEntry.mk (PyData.keyHash v0 hd.s_170) (Value.str hd.s_170 345) (Value.str hd.s_116 346)) :: (DictEntry.mk (PyData.keyHash v0 hd.s_171) (Value.str hd.s_171 434) (Value.str hd.s_108 328)) :: (DictEntry.mk (PyData.keyHash v0 hd.s_172) (Value.str hd.s_172 441) (Value.str hd.s_158 330)) :: (DictEntry.mk (PyData.keyHash v0 hd.s_173) (Value.str hd.s_173 448) (Value.str hd.s_105 319)) :: (DictEntry.mk (PyData.keyHash v0 hd.s_174) (Value.str hd.s_174 455) (Value.str hd.s_93 274)) :: (DictEntry.mk (PyData.keyHash v0 hd.s_175) (Value.str hd.s_175 462) (Value.str hd.s_127 277)) :: (DictEntry.mk (PyData.keyHash v0 hd.s_176) (Value.str hd.s_176 469) (Value.str hd.s_129 280)) :: (DictEntry.mk (PyData.keyHash v0 hd.s_177) (Value.str hd.s_177 476) (Value.str hd.s_131 283)) :: (DictEntry.mk (PyData.keyHash v0 hd.s_178) (Value.str hd.s_178 483) (Value.str hd.s_133 286)) :: (DictEntry.mk (PyData.keyHash v0 hd.s_179) (Value.str hd.s_179 490) (Value.str hd.s_91 289)) :: (DictEntry.mk (PyData.keyHash v0 hd.s_180) (Value.str hd.s_180 497) (Value.str hd.s_136 292)) :: (DictEntry.mk (PyData.keyHash v0 hd.s_181) (Value.str hd.s_181 504) (Value.str hd.s_119 295)) :: (DictEntry.mk (PyData.keyHash v0 hd.s_182) (Value.str hd.s_182 511) (Value.str hd.s_139 298)) :: (DictEntry.mk (PyData.keyHash v0 hd.s_183) (Value.str hd.s_183 518) (Value.str hd.s_141 301)) :: (DictEntry.mk (PyData.keyHash v0 hd.s_184) (Value.str hd.s_184 525) (Value.str hd.s_121 304)) :: (DictEntry.mk (PyData.keyHash v0 hd.s_185) (Value.str hd.s_185 532) (Value.str hd.s_144 307)) :: (DictEntry.mk (PyData.keyHash v0 hd.s_186) (Value.str hd.s_186 539) (Value.str hd.s_146 310)) :: (DictEntry.mk (PyData.keyHash v0 hd.s_187) (Value.str hd.s_187 546) (Value.str hd.s_148 313)) :: (DictEntry.mk (PyData.keyHash v0 hd.s_188) (Value.str hd.s_188 553) (Value.str hd.s_150 316)) :: (DictEntry.mk (PyData.keyHash v0 hd.s_189) (Value.str hd.s_189 572) (Value.str hd.s_161 334)) :: (DictEntry.mk (PyData.keyHash v0 hd.s_190) (Value.str hd.s_190 579) (Value.str hd.s_163 336)) :: (DictEntry.mk (PyData.keyHash v0 hd.s_191) (Value.str hd.s_191 586) (Value.str hd.s_165 338)) :: (DictEntry.mk (PyData.keyHash v0 hd.s_192) (Value.str hd.s_192 605) (Value.str hd.s_93 271)) :: (DictEntry.mk (PyData.keyHash v0 hd.s_193) (Value.str hd.s_193 630) (Value.str hd.s_153 322)) :: (DictEntry.mk (PyData.keyHash v0 hd.s_194) (Value.str hd.s_194 643) (Value.str hd.s_92 332)) :: [])) 68) #[]))
noncomputable def hd.o_80 : ((v0 : Params) → Obj) := (fun (v0 : Params) => (Obj.mk (Value.type "dict") none (Data.dict #[(DictEntry.mk (PyData.keyHash v0 hd.s_126) (Value.str hd.s_126 276) (Value.str hd.s_127 277)), (DictEntry.mk (PyData.keyHash v0 hd.s_128) (Value.str hd.s_128 279) (Value.str hd.s_129 280)), (DictEntry.mk (PyData.keyHash v0 hd.s_130) (Value.str hd.s_130 282) (Value.str hd.s_131 283)), (DictEntry.mk (PyData.keyHash v0 hd.s_132) (Value.str hd.s_132 285) (Value.str hd.s_133 286)), (DictEntry.mk (PyData.keyHash v0 hd.s_134) (Value.str hd.s_134 288) (Value.str hd.s_91 289)), (DictEntry.mk (PyData.keyHash v0 hd.s_135) (Value.str hd.s_135 291) (Value.str hd.s_136 292)), (DictEntry.mk (PyData.keyHash v0 hd.s_137) (Value.str hd.s_137 294) (Value.str hd.s_119 295)), (DictEntry.mk (PyData.keyHash v0 hd.s_138) (Value.str hd.s_138 297) (Value.str hd.s_139 298)), (DictEntry.mk (PyData.keyHash v0 hd.s_140) (Value.str hd.s_140 300) (Value.str hd.s_141 301)), (DictEntry.mk (PyData.keyHash v0 hd.s_142) (Value.str hd.s_142 303) (Value.str hd.s_121 304)), (DictEntry.mk (PyData.keyHash v0 hd.s_143) (Value.str hd.s_143 306) (Value.str hd.s_144 307)), (DictEntry.mk (PyData.keyHash v0 hd.s_145) (Value.str hd.s_145 309) (Value.str hd.s_146 310)), (DictEntry.mk (PyData.keyHash v0 hd.s_147) (Value.str hd.s_147 312) (Value.str hd.s_148 313)), (DictEntry.mk (PyData.keyHash v0 hd.s_149) (Value.str hd.s_149 315) (Value.str hd.s_150 316)), (DictEntry.mk (PyData.keyHash v0 hd.s_151) (Value.str hd.s_151 318) (Value.str hd.s_105 319)), (DictEntry.mk (PyData.keyHash v0 hd.s_152) (Value.str hd.s_152 321) (Value.str hd.s_153 322)), (DictEntry.mk (PyData.keyHash v0 hd.s_154) (Value.str hd.s_154 324) (Value.str hd.s_155 325))] 17) #[]))
noncomputable def hd.o_81 : ((v0 : Params) → Obj) := (fun (v0 : Params) => (Obj.mk (Value.type "dict") none (Data.dict #[(DictEntry.mk (PyData.keyHash v0 hd.s_156) (Value.str hd.s_156 327) (Value.str hd.s_108 328)), (DictEntry.mk (PyData.keyHash v0 hd.s_157) (Value.str hd.s_157 329) (Value.str hd.s_158 330)), (DictEntry.mk (PyData.keyHash v0 hd.s_159) (Value.str hd.s_159 331) (Value.str hd.s_92 332)), (DictEntry.mk (PyData.keyHash v0 hd.s_160) (Value.str hd.s_160 333) (Value.str hd.s_161 334)), (DictEntry.mk (PyData.keyHash v0 hd.s_162) (Value.str hd.s_162 335) (Value.str hd.s_163 336)), (DictEntry.mk (PyData.keyHash v0 hd.s_164) (Value.str hd.s_164 337) (Value.str hd.s_165 338)), (DictEntry.mk (PyData.keyHash v0 hd.s_166) (Value.str hd.s_166 339) (Value.str hd.s_167 340)), (DictEntry.mk (PyData.keyHash v0 hd.s_168) (Value.str hd.s_168 341) (Value.str hd.s_112 342)), (DictEntry.mk (PyData.keyHash v0 hd.s_169) (Value.str hd.s_169 343) (Value.str hd.s_114 344)), (DictEntry.mk (PyData.keyHash v0 hd.s_170) (Value.str hd.s_170 345) (Value.str hd.s_116 346))] 10) #[]))
noncomputable def hd.o_86 : ((v0 : Params) → Obj) := (fun (v0 : Params) => (Obj.mk (Value.type "dict_items") none (Data.fields #[(Value.ref 43)]) #[]))
noncomputable def hd.o_87 : ((v0 : Params) → Obj) := (fun (v0 : Params) => (Obj.mk (Value.type "list") none (Data.seq (List.toArray ((Value.ref 49) :: (Value.ref 50) :: (Value.ref 51) :: (Value.ref 52) :: (Value.ref 53) :: (Value.ref 54) :: (Value.ref 55) :: (Value.ref 56) :: (Value.ref 57) :: (Value.ref 58) :: (Value.ref 59) :: (Value.ref 60) :: (Value.ref 61) :: (Value.ref 62) :: (Value.ref 63) :: (Value.ref 64) :: (Value.ref 65) :: (Value.ref 66) :: (Value.ref 67) :: (Value.ref 68) :: (Value.ref 69) :: (Value.ref 70) :: (Value.ref 71) :: (Value.ref 72) :: (Value.ref 73) :: (Value.ref 74) :: (Value.ref 75) :: (Value.ref 76) :: (Value.ref 77) :: (Value.ref 78) :: (Value.ref 79) :: (Value.ref 80) :: (Value.ref 81) :: (Value.ref 82) :: (Value.ref 83) :: (Value.ref 84) :: (Value.ref 85) :: (Value.ref 86) :: (Value.ref 87) :: (Value.ref 88) :: (Value.ref 89) :: (Value.ref 90) :: (Value.ref 91) :: (Value.ref 92) :: [])) 46) #[]))
noncomputable def hd.o_88 : ((v0 : Params) → Obj) := (fun (v0 : Params) => (Obj.mk (Value.type "dict_itemiterator") none (Data.fields #[(Value.int (49 : Int) 0), (Value.bool Bool.true), Value.none, (Value.int (44 : Int) 0), (Value.int (44 : Int) 0), (Value.int (44 : Int) 0), (Value.str hd.s_101 225), (Value.str hd.s_97 226)]) #[]))
noncomputable def hd.o_89 : ((v0 : Params) → Obj) := (fun (v0 : Params) => (Obj.mk (Value.type "tuple") none (Data.seq #[(Value.str hd.s_101 225), (Value.str hd.s_97 226)] 0) #[]))
noncomputable def hd.o_90 : ((v0 : Params) → Obj) := (fun (v0 : Params) => (Obj.mk (Value.type "tuple") none (Data.seq #[(Value.str hd.s_102 228), (Value.str hd.s_97 229)] 0) #[]))
noncomputable def hd.o_91 : ((v0 : Params) → Obj) := (fun (v0 : Params) => (Obj.mk (Value.type "tuple") none (Data.seq #[(Value.str hd.s_103 231), (Value.str hd.s_93 232)] 0) #[]))
noncomputable def hd.o_92 : ((v0 : Params) → Obj) := (fun (v0 : Params) => (Obj.mk (Value.type "tuple") none (Data.seq #[(Value.str hd.s_104 234), (Value.str hd.s_105 235)] 0) #[]))
noncomputable def hd.o_93 : ((v0 : Params) → Obj) := (fun (v0 : Params) => (Obj.mk (Value.type "tuple") none (Data.seq #[(Value.str hd.s_106 237), (Value.str hd.s_105 238)] 0) #[]))
noncomputable def hd.o_94 : ((v0 : Params) → Obj) := (fun (v0 : Params) => (Obj.mk (Value.type "tuple") none (Data.seq #[(Value.str hd.s_107 240), (Value.str hd.s_108 241)] 0) #[]))
noncomputable def hd.o_95 : ((v0 : Params) → Obj) := (fun (v0 : Params) => (Obj.mk (Value.type "tuple") none (Data.seq #[(Value.str hd.s_109 243), (Value.str hd.s_110 244)] 0) #[]))
noncomputable def hd.o_96 : ((v0 : Params) → Obj) := (fun (v0 : Params) => (Obj.mk (Value.type "tuple") none (Data.seq #[(Value.str hd.s_111 246), (Value.str hd.s_112 247)] 0) #[]))
noncomputable def hd.o_97 : ((v0 : Params) → Obj) := (fun (v0 : Params) => (Obj.mk (Value.type "tuple") none (Data.seq #[(Value.str hd.s_113 249), (Value.str hd.s_114 250)] 0) #[]))
noncomputable def hd.o_98 : ((v0 : Params) → Obj) := (fun (v0 : Params) => (Obj.mk (Value.type "tuple") none (Data.seq #[(Value.str hd.s_115 252), (Value.str hd.s_116 253)] 0) #[]))
noncomputable def hd.o_99 : ((v0 : Params) → Obj) := (fun (v0 : Params) => (Obj.mk (Value.type "tuple") none (Data.seq #[(Value.str hd.s_117 255), (Value.str hd.s_93 256)] 0) #[]))
noncomputable def hd.o_100 : ((v0 : Params) → Obj) := (fun (v0 : Params) => (Obj.mk (Value.type "tuple") none (Data.seq #[(Value.str hd.s_118 258), (Value.str hd.s_119 259)] 0) #[]))
noncomputable def hd.o_101 : ((v0 : Params) → Obj) := (fun (v0 : Params) => (Obj.mk (Value.type "tuple") none (Data.seq #[(Value.str hd.s_120 261), (Value.str hd.s_121 262)] 0) #[]))
noncomputable def hd.o_102 : ((v0 : Params) → Obj) := (fun (v0 : Params) => (Obj.mk (Value.type "tuple") none (Data.seq #[(Value.str hd.s_122 264), (Value.str hd.s_91 265)] 0) #[]))
noncomputable def hd.o_103 : ((v0 : Params) → Obj) := (fun (v0 : Params) => (Obj.mk (Value.type "tuple") none (Data.seq #[(Value.str hd.s_123 267), (Value.str hd.s_93 268)] 0) #[]))
noncomputable def hd.o_104 : ((v0 : Params) → Obj) := (fun (v0 : Params) => (Obj.mk (Value.type "tuple") none (Data.seq #[(Value.str hd.s_124 270), (Value.str hd.s_93 271)] 0) #[]))
noncomputable def hd.o_105 : ((v0 : Params) → Obj) := (fun (v0 : Params) => (Obj.mk (Value.type "tuple") none (Data.seq #[(Value.str hd.s_125 273), (Value.str hd.s_93 274)] 0) #[]))
noncomputable def hd.o_106 : ((v0 : Params) → Obj) := (fun (v0 : Params) => (Obj.mk (Value.type "tuple") none (Data.seq #[(Value.str hd.s_126 276), (Value.str hd.s_127 277)] 0) #[]))
noncomputable def hd.o_107 : ((v0 : Params) → Obj) := (fun (v0 : Params) => (Obj.mk (Value.type "tuple") none (Data.seq #[(Value.str hd.s_128 279), (Value.str hd.s_129 280)] 0) #[]))
noncomputable def hd.o_108 : ((v0 : Params) → Obj) := (fun (v0 : Params) => (Obj.mk (Value.type "tuple") none (Data.seq #[(Value.str hd.s_130 282), (Value.str hd.s_131 283)] 0) #[]))
noncomputable def hd.o_109 : ((v0 : Params) → Obj) := (fun (v0 : Params) => (Obj.mk (Value.type "tuple") none (Data.seq #[(Value.str hd.s_132 285), (Value.str hd.s_133 286)] 0) #[]))
noncomputable def hd.o_110 : ((v0 : Params) → Obj) := (fun (v0 : Params) => (Obj.mk (Value.type "tuple") none (Data.seq #[(Value.str hd.s_134 288), (Value.str hd.s_91 289)] 0) #[]))
noncomputable def hd.o_111 : ((v0 : Params) → Obj) := (fun (v0 : Params) => (Obj.mk (Value.type "tuple") none (Data.seq #[(Value.str hd.s_135 291), (Value.str hd.s_136 292)] 0) #[]))
noncomputable def hd.o_112 : ((v0 : Params) → Obj) := (fun (v0 : Params) => (Obj.mk (Value.type "tuple") none (Data.seq #[(Value.str hd.s_137 294), (Value.str hd.s_119 295)] 0) #[]))
noncomputable def hd.o_113 : ((v0 : Params) → Obj) := (fun (v0 : Params) => (Obj.mk (Value.type "tuple") none (Data.seq #[(Value.str hd.s_138 297), (Value.str hd.s_139 298)] 0) #[]))
noncomputable def hd.o_114 : ((v0 : Params) → Obj) := (fun (v0 : Params) => (Obj.mk (Value.type "tuple") none (Data.seq #[(Value.str hd.s_140 300), (Value.str hd.s_141 301)] 0) #[]))
noncomputable def hd.o_115 : ((v0 : Params) → Obj) := (fun (v0 : Params) => (Obj.mk (Value.type "tuple") none (Data.seq #[(Value.str hd.s_142 303), (Value.str hd.s_121 304)] 0) #[]))
noncomputable def hd.o_116 : ((v0 : Params) → Obj) := (fun (v0 : Params) => (Obj.mk (Value.type "tuple") none (Data.seq #[(Value.str hd.s_143 306), (Value.str hd.s_144 307)] 0) #[]))
noncomputable def hd.o_117 : ((v0 : Params) → Obj) := (fun (v0 : Params) => (Obj.mk (Value.type "tuple") none (Data.seq #[(Value.str hd.s_145 309), (Value.str hd.s_146 310)] 0) #[]))
noncomputable def hd.o_118 : ((v0 : Params) → Obj) := (fun (v0 : Params) => (Obj.mk (Value.type "tuple") none (Data.seq #[(Value.str hd.s_147 312), (Value.str hd.s_148 313)] 0) #[]))
noncomputable def hd.o_119 : ((v0 : Params) → Obj) := (fun (v0 : Params) => (Obj.mk (Value.type "tuple") none (Data.seq #[(Value.str hd.s_149 315), (Value.str hd.s_150 316)] 0) #[]))
noncomputable def hd.o_120 : ((v0 : Params) → Obj) := (fun (v0 : Params) => (Obj.mk (Value.type "tuple") none (Data.seq #[(Value.str hd.s_151 318), (Value.str hd.s_105 319)] 0) #[]))
noncomputable def hd.o_121 : ((v0 : Params) → Obj) := (fun (v0 : Params) => (Obj.mk (Value.type "tuple") none (Data.seq #[(Value.str hd.s_152 321), (Value.str hd.s_153 322)] 0) #[]))
noncomputable def hd.o_122 : ((v0 : Params) → Obj) := (fun (v0 : Params) => (Obj.mk (Value.type "tuple") none (Data.seq #[(Value.str hd.s_154 324), (Value.str hd.s_155 325)] 0) #[]))
noncomputable def hd.o_123 : ((v0 : Params) → Obj) := (fun (v0 : Params) => (Obj.mk (Value.type "tuple") none (Data.seq #[(Value.str hd.s_156 327), (Value.str hd.s_108 328)] 0) #[]))
noncomputable def hd.o_124 : ((v0 : Params) → Obj) := (fun (v0 : Params) => (Obj.mk (Value.type "tuple") none (Data.seq #[(Value.str hd.s_157 329), (Value.str hd.s_158 330)] 0) #[]))
noncomputable def hd.o_125 : ((v0 : Params) → Obj) := (fun (v0 : Params) => (Obj.mk (Value.type "tuple") none (Data.seq #[(Value.str hd.s_159 331), (Value.str hd.s_92 332)] 0) #[]))
noncomputable def hd.o_126 : ((v0 : Params) → Obj) := (fun (v0 : Params) => (Obj.mk (Value.type "tuple") none (Data.seq #[(Value.str hd.s_160 333), (Value.str hd.s_161 334)] 0) #[]))
noncomputable def hd.o_127 : ((v0 : Params) → Obj) := (fun (v0 : Params) => (Obj.mk (Value.type "tuple") none (Data.seq #[(Value.str hd.s_162 335), (Value.str hd.s_163 336)] 0) #[]))
noncomputable def hd.o_128 : ((v0 : Params) → Obj) := (fun (v0 : Params) => (Obj.mk (Value.type "tuple") none (Data.seq #[(Value.str hd.s_164 337), (Value.str hd.s_165 338)] 0) #[]))
noncomputable def hd.o_129 : ((v0 : Params) → Obj) := (fun (v0 : Params) => (Obj.mk (Value.type "tuple") none (Data.seq #[(Value.str hd.s_166 339), (Value.str hd.s_167 340)] 0) #[]))
noncomputable def hd.o_130 : ((v0 : Params) → Obj) := (fun (v0 : Params) => (Obj.mk (Value.type "tuple") none (Data.seq #[(Value.str hd.s_168 341), (Value.str hd.s_112 342)] 0) #[]))
noncomputable def hd.o_131 : ((v0 : Params) → Obj) := (fun (v0 : Params) => (Obj.mk (Value.type "tuple") none (Data.seq #[(Value.str hd.s_169 343), (Value.str hd.s_114 344)] 0) #[]))
noncomputable def hd.o_132 : ((v0 : Params) → Obj) := (fun (v0 : Params) => (Obj.mk (Value.type "tuple") none (Data.seq #[(Value.str hd.s_170 345), (Value.str hd.s_116 346)] 0) #[]))
noncomputable def hd.o_133 : ((v0 : Params) → Obj) := (fun (v0 : Params) => (Obj.mk (Value.type "tuple") none (Data.seq #[] 0) #[]))
noncomputable def hd.o_134 : ((v0 : Params) → Obj) := (fun (v0 : Params) => (Obj.mk (Value.type "StopIteration") none (Data.fields #[(Value.ref 93), Value.none, Value.none, Value.none, (Value.bool Bool.false), Value.none]) #[]))
noncomputable def hd.o_135 : ((v0 : Params) → Obj) := (fun (v0 : Params) => (Obj.mk (Value.type "list") none (Data.seq (List.toArray ((Value.ref 49) :: (Value.ref 59) :: (Value.ref 62) :: (Value.ref 60) :: (Value.ref 61) :: (Value.ref 54) :: (Value.ref 63) :: (Value.ref 50) :: (Value.ref 90) :: (Value.ref 91) :: (Value.ref 92) :: (Value.ref 51) :: (Value.ref 83) :: (Value.ref 84) :: (Value.ref 80) :: (Value.ref 65) :: (Value.ref 66) :: (Value.ref 67) :: (Value.ref 68) :: (Value.ref 69) :: (Value.ref 70) :: (Value.ref 71) :: (Value.ref 72) :: (Value.ref 73) :: (Value.ref 74) :: (Value.ref 75) :: (Value.ref 76) :: (Value.ref 77) :: (Value.ref 78) :: (Value.ref 79) :: (Value.ref 52) :: (Value.ref 53) :: (Value.ref 86) :: (Value.ref 87) :: (Value.ref 88) :: (Value.ref 55) :: (Value.ref 89) :: (Value.ref 64) :: (Value.ref 56) :: (Value.ref 57) :: (Value.ref 58) :: (Value.ref 81) :: (Value.ref 82) :: (Value.ref 85) :: [])) 2) #[]))
noncomputable def hd.o_136 : ((v0 : Params) → Obj) := (fun (v0 : Params) => (Obj.mk (Value.type "tuple") none (Data.seq (List.toArray ((Value.ref 49) :: (Value.ref 50) :: (Value.ref 51) :: (Value.ref 52) :: (Value.ref 53) :: (Value.ref 54) :: (Value.ref 55) :: (Value.ref 56) :: (Value.ref 57) :: (Value.ref 58) :: (Value.ref 59) :: (Value.ref 60) :: (Value.ref 61) :: (Value.ref 62) :: (Value.ref 63) :: (Value.ref 64) :: (Value.ref 65) :: (Value.ref 66) :: (Value.ref 67) :: (Value.ref 68) :: (Value.ref 69) :: (Value.ref 70) :: (Value.ref 71) :: (Value.ref 72) :: (Value.ref 73) :: (Value.ref 74) :: (Value.ref 75) :: (Value.ref 76) :: (Value.ref 77) :: (Value.ref 78) :: (Value.ref 79) :: (Value.ref 80) :: (Value.ref 81) :: (Value.ref 82) :: (Value.ref 83) :: (Value.ref 84) :: (Value.ref 85) :: (Value.ref 86) :: (Value.ref 87) :: (Value.ref 88) :: (Value.ref 89) :: (Value.ref 90) :: (Value.ref 91) :: (Value.ref 92) :: [])) 0) #[]))
noncomputable def hd.o_137 : ((v0 : Params) → Obj) := (fun (v0 : Params) => (Obj.mk (Value.type "list") none (Data.seq #[] 0) #[]))
noncomputable def hd.o_138 : ((v0 : Params) → Obj) := (fun (v0 : Params) => (Obj.mk (Value.type "list_iterator") none (Data.fields #[Value.none, (Value.int (44 : Int) 0)]) #[]))
noncomputable def hd.o_139 : ((v0 : Params) → Obj) := (fun (v0 : Params) => (Obj.mk (Value.type "tuple_iterator") none (Data.fields #[Value.none, (Value.int (2 : Int) 0)]) #[]))
noncomputable def hd.o_140 : ((v0 : Params) → Obj) := (fun (v0 : Params) => (Obj.mk (Value.type "tuple") none (Data.seq #[] 0) #[]))
noncomputable def hd.o_141 : ((v0 : Params) → Obj) := (fun (v0 : Params) => (Obj.mk (Value.type "StopIteration") none (Data.fields #[(Value.ref 100), Value.none, Value.none, Value.none, (Value.bool Bool.false), Value.none]) #[]))
noncomputable def hd.o_142 : ((v0 : Params) → Obj) := (fun (v0 : Params) => (Obj.mk (Value.type "tuple_iterator") none (Data.fields #[Value.none, (Value.int (2 : Int) 0)]) #[]))
noncomputable def hd.o_143 : ((v0 : Params) → Obj) := (fun (v0 : Params) => (Obj.mk (Value.type "tuple") none (Data.seq #[] 0) #[]))
noncomputable def hd.o_144 : ((v0 : Params) → Obj) := (fun (v0 : Params) => (Obj.mk (Value.type "StopIteration") none (Data.fields #[(Value.ref 103), Value.none, Value.none, Value.none, (Value.bool Bool.false), Value.none]) #[]))
noncomputable def hd.o_145 : ((v0 : Params) → Obj) := (fun (v0 : Params) => (Obj.mk (Value.type "tuple_iterator") none (Data.fields #[Value.none, (Value.int (2 : Int) 0)]) #[]))
noncomputable def hd.o_146 : ((v0 : Params) → Obj) := (fun (v0 : Params) => (Obj.mk (Value.type "tuple") none (Data.seq #[] 0) #[]))
noncomputable def hd.o_147 : ((v0 : Params) → Obj) := (fun (v0 : Params) => (Obj.mk (Value.type "StopIteration") none (Data.fields #[(Value.ref 106), Value.none, Value.none, Value.none, (Value.bool Bool.false), Value.none]) #[]))
noncomputable def hd.o_148 : ((v0 : Params) → Obj) := (fun (v0 : Params) => (Obj.mk (Value.type "tuple_iterator") none (Data.fields #[Value.none, (Value.int (2 : Int) 0)]) #[]))
noncomputable def hd.o_149 : ((v0 : Params) → Obj) := (fun (v0 : Params) => (Obj.mk (Value.type "tuple") none (Data.seq #[] 0) #[]))
noncomputable def hd.o_150 : ((v0 : Params) → Obj) := (fun (v0 : Params) => (Obj.mk (Value.type "StopIteration") none (Data.fields #[(Value.ref 109), Value.none, Value.none, Value.none, (Value.bool Bool.false), Value.none]) #[]))
noncomputable def hd.o_151 : ((v0 : Params) → Obj) := (fun (v0 : Params) => (Obj.mk (Value.type "tuple_iterator") none (Data.fields #[Value.none, (Value.int (2 : Int) 0)]) #[]))
noncomputable def hd.o_152 : ((v0 : Params) → Obj) := (fun (v0 : Params) => (Obj.mk (Value.type "tuple") none (Data.seq #[] 0) #[]))
noncomputable def hd.o_153 : ((v0 : Params) → Obj) := (fun (v0 : Params) => (Obj.mk (Value.type "StopIteration") none (Data.fields #[(Value.ref 112), Value.none, Value.none, Value.none, (Value.bool Bool.false), Value.none]) #[]))
noncomputable def hd.o_154 : ((v0 : Params) → Obj) := (fun (v0 : Params) => (Obj.mk (Value.type "tuple_iterator") none (Data.fields #[Value.none, (Value.int (2 : Int) 0)]) #[]))
noncomputable def hd.o_155 : ((v0 : Params) → Obj) := (fun (v0 : Params) => (Obj.mk (Value.type "tuple") none (Data.seq #[] 0) #[]))
noncomputable def hd.o_156 : ((v0 : Params) → Obj) := (fun (v0 : Params) => (Obj.mk (Value.type "StopIteration") none (Data.fields #[(Value.ref 115), Value.none, Value.none, Value.none, (Value.bool Bool.false), Value.none]) #[]))
noncomputable def hd.o_157 : ((v0 : Params) → Obj) := (fun (v0 : Params) => (Obj.mk (Value.type "tuple_iterator") none (Data.fields #[Value.none, (Value.int (2 : Int) 0)]) #[]))
noncomputable def hd.o_158 : ((v0 : Params) → Obj) := (fun (v0 : Params) => (Obj.mk (Value.type "tuple") none (Data.seq #[] 0) #[]))
noncomputable def hd.o_159 : ((v0 : Params) → Obj) := (fun (v0 : Params) => (Obj.mk (Value.type "StopIteration") none (Data.fields #[(Value.ref 118), Value.none, Value.none, Value.none, (Value.bool Bool.false), Value.none]) #[]))
noncomputable def hd.o_160 : ((v0 : Params) → Obj) := (fun (v0 : Params) => (Obj.mk (Value.type "tuple_iterator") none (Data.fields #[Value.none, (Value.int (2 : Int) 0)]) #[]))
noncomputable def hd.o_161 : ((v0 : Params) → Obj) := (fun (v0 : Params) => (Obj.mk (Value.type "tuple") none (Data.seq #[] 0) #[]))
noncomputable def hd.o_162 : ((v0 : Params) → Obj) := (fun (v0 : Params) => (Obj.mk (Value.type "StopIteration") none (Data.fields #[(Value.ref 121), Value.none, Value.none, Value.none, (Value.bool Bool.false), Value.none]) #[]))
noncomputable def hd.o_163 : ((v0 : Params) → Obj) := (fun (v0 : Params) => (Obj.mk (Value.type "tuple_iterator") none (Data.fields #[Value.none, (Value.int (2 : Int) 0)]) #[]))
noncomputable def hd.o_164 : ((v0 : Params) → Obj) := (fun (v0 : Params) => (Obj.mk (Value.type "tuple") none (Data.seq #[] 0) #[]))
noncomputable def hd.o_165 : ((v0 : Params) → Obj) := (fun (v0 : Params) => (Obj.mk (Value.type "StopIteration") none (Data.fields #[(Value.ref 124), Value.none, Value.none, Value.none, (Value.bool Bool.false), Value.none]) #[]))
noncomputable def hd.o_166 : ((v0 : Params) → Obj) := (fun (v0 : Params) => (Obj.mk (Value.type "tuple_iterator") none (Data.fields #[Value.none, (Value.int (2 : Int) 0)]) #[]))
noncomputable def hd.o_167 : ((v0 : Params) → Obj) := (fun (v0 : Params) => (Obj.mk (Value.type "tuple") none (Data.seq #[] 0) #[]))
noncomputable def hd.o_168 : ((v0 : Params) → Obj) := (fun (v0 : Params) => (Obj.mk (Value.type "StopIteration") none (Data.fields #[(Value.ref 127), Value.none, Value.none, Value.none, (Value.bool Bool.false), Value.none]) #[]))
noncomputable def hd.o_169 : ((v0 : Params) → Obj) := (fun (v0 : Params) => (Obj.mk (Value.type "tuple_iterator") none (Data.fields #[Value.none, (Value.int (2 : Int) 0)]) #[]))
noncomputable def hd.o_170 : ((v0 : Params) → Obj) := (fun (v0 : Params) => (Obj.mk (Value.type "tuple") none (Data.seq #[] 0) #[]))
noncomputable def hd.o_171 : ((v0 : Params) → Obj) := (fun (v0 : Params) => (Obj.mk (Value.type "StopIteration") none (Data.fields #[(Value.ref 130), Value.none, Value.none, Value.none, (Value.bool Bool.false), Value.none]) #[]))
noncomputable def hd.o_172 : ((v0 : Params) → Obj) := (fun (v0 : Params) => (Obj.mk (Value.type "tuple_iterator") none (Data.fields #[Value.none, (Value.int (2 : Int) 0)]) #[]))
noncomputable def hd.o_173 : ((v0 : Params) → Obj) := (fun (v0 : Params) => (Obj.mk (Value.type "tuple") none (Data.seq #[] 0) #[]))
noncomputable def hd.o_174 : ((v0 : Params) → Obj) := (fun (v0 : Params) => (Obj.mk (Value.type "StopIteration") none (Data.fields #[(Value.ref 133), Value.none, Value.none, Value.none, (Value.bool Bool.false), Value.none]) #[]))
noncomputable def hd.o_175 : ((v0 : Params) → Obj) := (fun (v0 : Params) => (Obj.mk (Value.type "tuple_iterator") none (Data.fields #[Value.none, (Value.int (2 : Int) 0)]) #[]))
noncomputable def hd.o_176 : ((v0 : Params) → Obj) := (fun (v0 : Params) => (Obj.mk (Value.type "tuple") none (Data.seq #[] 0) #[]))
noncomputable def hd.o_177 : ((v0 : Params) → Obj) := (fun (v0 : Params) => (Obj.mk (Value.type "StopIteration") none (Data.fields #[(Value.ref 136), Value.none, Value.none, Value.none, (Value.bool Bool.false), Value.none]) #[]))
noncomputable def hd.o_178 : ((v0 : Params) → Obj) := (fun (v0 : Params) => (Obj.mk (Value.type "tuple_iterator") none (Data.fields #[Value.none, (Value.int (2 : Int) 0)]) #[]))
noncomputable def hd.o_179 : ((v0 : Params) → Obj) := (fun (v0 : Params) => (Obj.mk (Value.type "tuple") none (Data.seq #[] 0) #[]))
noncomputable def hd.o_180 : ((v0 : Params) → Obj) := (fun (v0 : Params) => (Obj.mk (Value.type "StopIteration") none (Data.fields #[(Value.ref 139), Value.none, Value.none, Value.none, (Value.bool Bool.false), Value.none]) #[]))
noncomputable def hd.o_181 : ((v0 : Params) → Obj) := (fun (v0 : Params) => (Obj.mk (Value.type "tuple_iterator") none (Data.fields #[Value.none, (Value.int (2 : Int) 0)]) #[]))
noncomputable def hd.o_182 : ((v0 : Params) → Obj) := (fun (v0 : Params) => (Obj.mk (Value.type "tuple") none (Data.seq #[] 0) #[]))
noncomputable def hd.o_183 : ((v0 : Params) → Obj) := (fun (v0 : Params) => (Obj.mk (Value.type "StopIteration") none (Data.fields #[(Value.ref 142), Value.none, Value.none, Value.none, (Value.bool Bool.false), Value.none]) #[]))
noncomputable def hd.o_184 : ((v0 : Params) → Obj) := (fun (v0 : Params) => (Obj.mk (Value.type "tuple_iterator") none (Data.fields #[Value.none, (Value.int (2 : Int) 0)]) #[]))
noncomputable def hd.o_185 : ((v0 : Params) → Obj) := (fun (v0 : Params) => (Obj.mk (Value.type "tuple") none (Data.seq #[] 0) #[]))
noncomputable def hd.o_186 : ((v0 : Params) → Obj) := (fun (v0 : Params) => (Obj.mk (Value.type "StopIteration") none (Data.fields #[(Value.ref 145), Value.none, Value.none, Value.none, (Value.bool Bool.false), Value.none]) #[]))
noncomputable def hd.o_187 : ((v0 : Params) → Obj) := (fun (v0 : Params) => (Obj.mk (Value.type "tuple_iterator") none (Data.fields #[Value.none, (Value.int (2 : Int) 0)]) #[]))
noncomputable def hd.o_188 : ((v0 : Params) → Obj) := (fun (v0 : Params) => (Obj.mk (Value.type "tuple") none (Data.seq #[] 0) #[]))
noncomputable def hd.o_189 : ((v0 : Params) → Obj) := (fun (v0 : Params) => (Obj.mk (Value.type "StopIteration") none (Data.fields #[(Value.ref 148), Value.none, Value.none, Value.none, (Value.bool Bool.false), Value.none]) #[]))
noncomputable def hd.o_190 : ((v0 : Params) → Obj) := (fun (v0 : Params) => (Obj.mk (Value.type "tuple_iterator") none (Data.fields #[Value.none, (Value.int (2 : Int) 0)]) #[]))
noncomputable def hd.o_191 : ((v0 : Params) → Obj) := (fun (v0 : Params) => (Obj.mk (Value.type "tuple") none (Data.seq #[] 0) #[]))
noncomputable def hd.o_192 : ((v0 : Params) → Obj) := (fun (v0 : Params) => (Obj.mk (Value.type "StopIteration") none (Data.fields #[(Value.ref 151), Value.none, Value.none, Value.none, (Value.bool Bool.false), Value.none]) #[]))
noncomputable def hd.o_193 : ((v0 : Params) → Obj) := (fun (v0 : Params) => (Obj.mk (Value.type "tuple_iterator") none (Data.fields #[Value.none, (Value.int (2 : Int) 0)]) #[]))
noncomputable def hd.o_194 : ((v0 : Params) → Obj) := (fun (v0 : Params) => (Obj.mk (Value.type "tuple") none (Data.seq #[] 0) #[]))
noncomputable def hd.o_195 : ((v0 : Params) → Obj) := (fun (v0 : Params) => (Obj.mk (Value.type "StopIteration") none (Data.fields #[(Value.ref 154), Value.none, Value.none, Value.none, (Value.bool Bool.false), Value.none]) #[]))
noncomputable def hd.o_196 : ((v0 : Params) → Obj) := (fun (v0 : Params) => (Obj.mk (Value.type "tuple_iterator") none (Data.fields #[Value.none, (Value.int (2 : Int) 0)]) #[]))
noncomputable def hd.o_197 : ((v0 : Params) → Obj) := (fun (v0 : Params) => (Obj.mk (Value.type "tuple") none (Data.seq #[] 0) #[]))
noncomputable def hd.o_198 : ((v0 : Params) → Obj) := (fun (v0 : Params) => (Obj.mk (Value.type "StopIteration") none (Data.fields #[(Value.ref 157), Value.none, Value.none, Value.none, (Value.bool Bool.false), Value.none]) #[]))
noncomputable def hd.o_199 : ((v0 : Params) → Obj) := (fun (v0 : Params) => (Obj.mk (Value.type "tuple_iterator") none (Data.fields #[Value.none, (Value.int (2 : Int) 0)]) #[]))
noncomputable def hd.o_200 : ((v0 : Params) → Obj) := (fun (v0 : Params) => (Obj.mk (Value.type "tuple") none (Data.seq #[] 0) #[]))
noncomputable def hd.o_201 : ((v0 : Params) → Obj) := (fun (v0 : Params) => (Obj.mk (Value.type "StopIteration") none (Data.fields #[(Value.ref 160), Value.none, Value.none, Value.none, (Value.bool Bool.false), Value.none]) #[]))
noncomputable def hd.o_202 : ((v0 : Params) → Obj) := (fun (v0 : Params) => (Obj.mk (Value.type "tuple_iterator") none (Data.fields #[Value.none, (Value.int (2 : Int) 0)]) #[]))
noncomputable def hd.o_203 : ((v0 : Params) → Obj) := (fun (v0 : Params) => (Obj.mk (Value.type "tuple") none (Data.seq #[] 0) #[]))
noncomputable def hd.o_204 : ((v0 : Params) → Obj) := (fun (v0 : Params) => (Obj.mk (Value.type "StopIteration") none (Data.fields #[(Value.ref 163), Value.none, Value.none, Value.none, (Value.bool Bool.false), Value.none]) #[]))
noncomputable def hd.o_205 : ((v0 : Params) → Obj) := (fun (v0 : Params) => (Obj.mk (Value.type "tuple_iterator") none (Data.fields #[Value.none, (Value.int (2 : Int) 0)]) #[]))
noncomputable def hd.o_206 : ((v0 : Params) → Obj) := (fun (v0 : Params) => (Obj.mk (Value.type "tuple") none (Data.seq #[] 0) #[]))
noncomputable def hd.o_207 : ((v0 : Params) → Obj) := (fun (v0 : Params) => (Obj.mk (Value.type "StopIteration") none (Data.fields #[(Value.ref 166), Value.none, Value.none, Value.none, (Value.bool Bool.false), Value.none]) #[]))
noncomputable def hd.o_208 : ((v0 : Params) → Obj) := (fun (v0 : Params) => (Obj.mk (Value.type "tuple_iterator") none (Data.fields #[Value.none, (Value.int (2 : Int) 0)]) #[]))
noncomputable def hd.o_209 : ((v0 : Params) → Obj) := (fun (v0 : Params) => (Obj.mk (Value.type "tuple") none (Data.seq #[] 0) #[]))
noncomputable def hd.o_210 : ((v0 : Params) → Obj) := (fun (v0 : Params) => (Obj.mk (Value.type "StopIteration") none (Data.fields #[(Value.ref 169), Value.none, Value.none, Value.none, (Value.bool Bool.false), Value.none]) #[]))
noncomputable def hd.o_211 : ((v0 : Params) → Obj) := (fun (v0 : Params) => (Obj.mk (Value.type "tuple_iterator") none (Data.fields #[Value.none, (Value.int (2 : Int) 0)]) #[]))
noncomputable def hd.o_212 : ((v0 : Params) → Obj) := (fun (v0 : Params) => (Obj.mk (Value.type "tuple") none (Data.seq #[] 0) #[]))
noncomputable def hd.o_213 : ((v0 : Params) → Obj) := (fun (v0 : Params) => (Obj.mk (Value.type "StopIteration") none (Data.fields #[(Value.ref 172), Value.none, Value.none, Value.none, (Value.bool Bool.false), Value.none]) #[]))
noncomputable def hd.o_214 : ((v0 : Params) → Obj) := (fun (v0 : Params) => (Obj.mk (Value.type "tuple_iterator") none (Data.fields #[Value.none, (Value.int (2 : Int) 0)]) #[]))
noncomputable def hd.o_215 : ((v0 : Params) → Obj) := (fun (v0 : Params) => (Obj.mk (Value.type "tuple") none (Data.seq #[] 0) #[]))
noncomputable def hd.o_216 : ((v0 : Params) → Obj) := (fun (v0 : Params) => (Obj.mk (Value.type "StopIteration") none (Data.fields #[(Value.ref 175), Value.none, Value.none, Value.none, (Value.bool Bool.false), Value.none]) #[]))
noncomputable def hd.o_217 : ((v0 : Params) → Obj) := (fun (v0 : Params) => (Obj.mk (Value.type "tuple_iterator") none (Data.fields #[Value.none, (Value.int (2 : Int) 0)]) #[]))
noncomputable def hd.o_218 : ((v0 : Params) → Obj) := (fun (v0 : Params) => (Obj.mk (Value.type "tuple") none (Data.seq #[] 0) #[]))
noncomputable def hd.o_219 : ((v0 : Params) → Obj) := (fun (v0 : Params) => (Obj.mk (Value.type "StopIteration") none (Data.fields #[(Value.ref 178), Value.none, Value.none, Value.none, (Value.bool Bool.false), Value.none]) #[]))
noncomputable def hd.o_220 : ((v0 : Params) → Obj) := (fun (v0 : Params) => (Obj.mk (Value.type "tuple_iterator") none (Data.fields #[Value.none, (Value.int (2 : Int) 0)]) #[]))
noncomputable def hd.o_221 : ((v0 : Params) → Obj) := (fun (v0 : Params) => (Obj.mk (Value.type "tuple") none (Data.seq #[] 0) #[]))
noncomputable def hd.o_222 : ((v0 : Params) → Obj) := (fun (v0 : Params) => (Obj.mk (Value.type "StopIteration") none (Data.fields #[(Value.ref 181), Value.none, Value.none, Value.none, (Value.bool Bool.false), Value.none]) #[]))
noncomputable def hd.o_223 : ((v0 : Params) → Obj) := (fun (v0 : Params) => (Obj.mk (Value.type "tuple_iterator") none (Data.fields #[Value.none, (Value.int (2 : Int) 0)]) #[]))
noncomputable def hd.o_224 : ((v0 : Params) → Obj) := (fun (v0 : Params) => (Obj.mk (Value.type "tuple") none (Data.seq #[] 0) #[]))
noncomputable def hd.o_225 : ((v0 : Params) → Obj) := (fun (v0 : Params) => (Obj.mk (Value.type "StopIteration") none (Data.fields #[(Value.ref 184), Value.none, Value.none, Value.none, (Value.bool Bool.false), Value.none]) #[]))
noncomputable def hd.o_226 : ((v0 : Params) → Obj) := (fun (v0 : Params) => (Obj.mk (Value.type "tuple_iterator") none (Data.fields #[Value.none, (Value.int (2 : Int) 0)]) #[]))
noncomputable def hd.o_227 : ((v0 : Params) → Obj) := (fun (v0 : Params) => (Obj.mk (Value.type "tuple") none (Data.seq #[] 0) #[]))
noncomputable def hd.o_228 : ((v0 : Params) → Obj) := (fun (v0 : Params) => (Obj.mk (Value.type "StopIteration") none (Data.fields #[(Value.ref 187), Value.none, Value.none, Value.none, (Value.bool Bool.false), Value.none]) #[]))
noncomputable def hd.o_229 : ((v0 : Params) → Obj) := (fun (v0 : Params) => (Obj.mk (Value.type "tuple_iterator") none (Data.fields #[Value.none, (Value.int (2 : Int) 0)]) #[]))
noncomputable def hd.o_230 : ((v0 : Params) → Obj) := (fun (v0 : Params) => (Obj.mk (Value.type "tuple") none (Data.seq #[] 0) #[]))
noncomputable def hd.o_231 : ((v0 : Params) → Obj) := (fun (v0 : Params) => (Obj.mk (Value.type "StopIteration") none (Data.fields #[(Value.ref 190), Value.none, Value.none, Value.none, (Value.bool Bool.false), Value.none]) #[]))
noncomputable def hd.o_232 : ((v0 : Params) → Obj) := (fun (v0 : Params) => (Obj.mk (Value.type "tuple_iterator") none (Data.fields #[Value.none, (Value.int (2 : Int) 0)]) #[]))
noncomputable def hd.o_233 : ((v0 : Params) → Obj) := (fun (v0 : Params) => (Obj.mk (Value.type "tuple") none (Data.seq #[] 0) #[]))
noncomputable def hd.o_234 : ((v0 : Params) → Obj) := (fun (v0 : Params) => (Obj.mk (Value.type "StopIteration") none (Data.fields #[(Value.ref 193), Value.none, Value.none, Value.none, (Value.bool Bool.false), Value.none]) #[]))
noncomputable def hd.o_235 : ((v0 : Params) → Obj) := (fun (v0 : Params) => (Obj.mk (Value.type "tuple_iterator") none (Data.fields #[Value.none, (Value.int (2 : Int) 0)]) #[]))
noncomputable def hd.o_236 : ((v0 : Params) → Obj) := (fun (v0 : Params) => (Obj.mk (Value.type "tuple") none (Data.seq #[] 0) #[]))
noncomputable def hd.o_237 : ((v0 : Params) → Obj) := (fun (v0 : Params) => (Obj.mk (Value.type "StopIteration") none (Data.fields #[(Value.ref 196), Value.none, Value.none, Value.none, (Value.bool Bool.false), Value.none]) #[]))
noncomputable def hd.o_238 : ((v0 : Params) → Obj) := (fun (v0 : Params) => (Obj.mk (Value.type "tuple_iterator") none (Data.fields #[Value.none, (Value.int (2 : Int) 0)]) #[]))
noncomputable def hd.o_239 : ((v0 : Params) → Obj) := (fun (v0 : Params) => (Obj.mk (Value.type "tuple") none (Data.seq #[] 0) #[]))
noncomputable def hd.o_240 : ((v0 : Params) → Obj) := (fun (v0 : Params) => (Obj.mk (Value.type "StopIteration") none (Data.fields #[(Value.ref 199), Value.none, Value.none, Value.none, (Value.bool Bool.false), Value.none]) #[]))
noncomputable def hd.o_241 : ((v0 : Params) → Obj) := (fun (v0 : Params) => (Obj.mk (Value.type "tuple_iterator") none (Data.fields #[Value.none, (Value.int (2 : Int) 0)]) #[]))
noncomputable def hd.o_242 : ((v0 : Params) → Obj) := (fun (v0 : Params) => (Obj.mk (Value.type "tuple") none (Data.seq #[] 0) #[]))
noncomputable def hd.o_243 : ((v0 : Params) → Obj) := (fun (v0 : Params) => (Obj.mk (Value.type "StopIteration") none (Data.fields #[(Value.ref 202), Value.none, Value.none, Value.none, (Value.bool Bool.false), Value.none]) #[]))
noncomputable def hd.o_244 : ((v0 : Params) → Obj) := (fun (v0 : Params) => (Obj.mk (Value.type "tuple_iterator") none (Data.fields #[Value.none, (Value.int (2 : Int) 0)]) #[]))
noncomputable def hd.o_245 : ((v0 : Params) → Obj) := (fun (v0 : Params) => (Obj.mk (Value.type "tuple") none (Data.seq #[] 0) #[]))
noncomputable def hd.o_246 : ((v0 : Params) → Obj) := (fun (v0 : Params) => (Obj.mk (Value.type "StopIteration") none (Data.fields #[(Value.ref 205), Value.none, Value.none, Value.none, (Value.bool Bool.false), Value.none]) #[]))
noncomputable def hd.o_247 : ((v0 : Params) → Obj) := (fun (v0 : Params) => (Obj.mk (Value.type "tuple_iterator") none (Data.fields #[Value.none, (Value.int (2 : Int) 0)]) #[]))
noncomputable def hd.o_248 : ((v0 : Params) → Obj) := (fun (v0 : Params) => (Obj.mk (Value.type "tuple") none (Data.seq #[] 0) #[]))
noncomputable def hd.o_249 : ((v0 : Params) → Obj) := (fun (v0 : Params) => (Obj.mk (Value.type "StopIteration") none (Data.fields #[(Value.ref 208), Value.none, Value.none, Value.none, (Value.bool Bool.false), Value.none]) #[]))
noncomputable def hd.o_250 : ((v0 : Params) → Obj) := (fun (v0 : Params) => (Obj.mk (Value.type "tuple_iterator") none (Data.fields #[Value.none, (Value.int (2 : Int) 0)]) #[]))
noncomputable def hd.o_251 : ((v0 : Params) → Obj) := (fun (v0 : Params) => (Obj.mk (Value.type "tuple") none (Data.seq #[] 0) #[]))
noncomputable def hd.o_252 : ((v0 : Params) → Obj) := (fun (v0 : Params) => (Obj.mk (Value.type "StopIteration") none (Data.fields #[(Value.ref 211), Value.none, Value.none, Value.none, (Value.bool Bool.false), Value.none]) #[]))
noncomputable def hd.o_253 : ((v0 : Params) → Obj) := (fun (v0 : Params) => (Obj.mk (Value.type "tuple_iterator") none (Data.fields #[Value.none, (Value.int (2 : Int) 0)]) #[]))
noncomputable def hd.o_254 : ((v0 : Params) → Obj) := (fun (v0 : Params) => (Obj.mk (Value.type "tuple") none (Data.seq #[] 0) #[]))
noncomputable def hd.o_255 : ((v0 : Params) → Obj) := (fun (v0 : Params) => (Obj.mk (Value.type "StopIteration") none (Data.fields #[(Value.ref 214), Value.none, Value.none, Value.none, (Value.bool Bool.false), Value.none]) #[]))
noncomputable def hd.o_256 : ((v0 : Params) → Obj) := (fun (v0 : Params) => (Obj.mk (Value.type "tuple_iterator") none (Data.fields #[Value.none, (Value.int (2 : Int) 0)]) #[]))
noncomputable def hd.o_257 : ((v0 : Params) → Obj) := (fun (v0 : Params) => (Obj.mk (Value.type "tuple") none (Data.seq #[] 0) #[]))
noncomputable def hd.o_258 : ((v0 : Params) → Obj) := (fun (v0 : Params) => (Obj.mk (Value.type "StopIteration") none (Data.fields #[(Value.ref 217), Value.none, Value.none, Value.none, (Value.bool Bool.false), Value.none]) #[]))
noncomputable def hd.o_259 : ((v0 : Params) → Obj) := (fun (v0 : Params) => (Obj.mk (Value.type "tuple_iterator") none (Data.fields #[Value.none, (Value.int (2 : Int) 0)]) #[]))
noncomputable def hd.o_260 : ((v0 : Params) → Obj) := (fun (v0 : Params) => (Obj.mk (Value.type "tuple") none (Data.seq #[] 0) #[]))
noncomputable def hd.o_261 : ((v0 : Params) → Obj) := (fun (v0 : Params) => (Obj.mk (Value.type "StopIteration") none (Data.fields #[(Value.ref 220), Value.none, Value.none, Value.none, (Value.bool Bool.false), Value.none]) #[]))
noncomputable def hd.o_262 : ((v0 : Params) → Obj) := (fun (v0 : Params) => (Obj.mk (Value.type "tuple_iterator") none (Data.fields #[Value.none, (Value.int (2 : Int) 0)]) #[]))
noncomputable def hd.o_263 : ((v0 : Params) → Obj) := (fun (v0 : Params) => (Obj.mk (Value.type "tuple") none (Data.seq #[] 0) #[]))
noncomputable def hd.o_264 : ((v0 : Params) → Obj) := (fun (v0 : Params) => (Obj.mk (Value.type "StopIteration") none (Data.fields #[(Value.ref 223), Value.none, Value.none, Value.none, (Value.bool Bool.false), Value.none]) #[]))
noncomputable def hd.o_265 : ((v0 : Params) → Obj) := (fun (v0 : Params) => (Obj.mk (Value.type "tuple_iterator") none (Data.fields #[Value.none, (Value.int (2 : Int) 0)]) #[]))
noncomputable def hd.o_266 : ((v0 : Params) → Obj) := (fun (v0 : Params) => (Obj.mk (Value.type "tuple") none (Data.seq #[] 0) #[]))
noncomputable def hd.o_267 : ((v0 : Params) → Obj) := (fun (v0 : Params) => (Obj.mk (Value.type "StopIteration") none (Data.fields #[(Value.ref 226), Value.none, Value.none, Value.none, (Value.bool Bool.false), Value.none]) #[]))
noncomputable def hd.o_268 : ((v0 : Params) → Obj) := (fun (v0 : Params) => (Obj.mk (Value.type "tuple_iterator") none (Data.fields #[Value.none, (Value.int (2 : Int) 0)]) #[]))
noncomputable def hd.o_269 : ((v0 : Params) → Obj) := (fun (v0 : Params) => (Obj.mk (Value.type "tuple") none (Data.seq #[] 0) #[]))
noncomputable def hd.o_270 : ((v0 : Params) → Obj) := (fun (v0 : Params) => (Obj.mk (Value.type "StopIteration") none (Data.fields #[(Value.ref 229), Value.none, Value.none, Value.none, (Value.bool Bool.false), Value.none]) #[]))
noncomputable def hd.o_271 : ((v0 : Params) → Obj) := (fun (v0 : Params) => (Obj.mk (Value.type "tuple") none (Data.seq #[] 0) #[]))
noncomputable def hd.o_272 : ((v0 : Params) → Obj) := (fun (v0 : Params) => (Obj.mk (Value.type "StopIteration") none (Data.fields #[(Value.ref 231), Value.none, Value.none, Value.none, (Value.bool Bool.false), Value.none]) #[]))
noncomputable def hd.o_277 : ((v0 : Params) → Obj) := (fun (v0 : Params) => (Obj.mk (Value.type "dict") none (Data.dict (List.toArray ((DictEntry.mk (PyData.keyHash v0 hd.s_195) (Value.str hd.s_195 742) (Value.int (54 : Int) 740)) :: (DictEntry.mk (PyData.keyHash v0 hd.s_196) (Value.str hd.s_196 744) (Value.int (28 : Int) 688)) :: (DictEntry.mk (PyData.keyHash v0 hd.s_197) (Value.str hd.s_197 746) (Value.int (24 : Int) 680)) :: (DictEntry.mk (PyData.keyHash v0 hd.s_198) (Value.str hd.s_198 748) (Value.int (40 : Int) 712)) :: (DictEntry.mk (PyData.keyHash v0 hd.s_199) (Value.str hd.s_199 750) (Value.int (19 : Int) 670)) :: (DictEntry.mk (PyData.keyHash v0 hd.s_200) (Value.str hd.s_200 752) (Value.int (41 : Int) 714)) :: (DictEntry.mk (PyData.keyHash v0 hd.s_201) (Value.str hd.s_201 754) (Value.int (7 : Int) 646)) :: (DictEntry.mk (PyData.keyHash v0 hd.s_202) (Value.str hd.s_202 756) (Value.int (8 : Int) 648)) :: (DictEntry.mk (PyData.keyHash v0 hd.s_203) (Value.str hd.s_203 758) (Value.int (16 : Int) 664)) :: (DictEntry.mk (PyData.keyHash v0 hd.s_204) (Value.str hd.s_204 760) (Value.int (35 : Int) 702)) :: (DictEntry.mk (PyData.keyHash v0 hd.s_205) (Value.str hd.s_205 762) (Value.int (46 : Int) 724)) :: (DictEntry.mk (PyData.keyHash v0 hd.s_206) (Value.str hd.s_206 764) (Value.int (38 : Int) 708)) :: (DictEntry.mk (PyData.keyHash v0 hd.s_207) (Value.str hd.s_207 766) (Value.int (14 : Int) 660)) :: (DictEntry.mk (PyData.keyHash v0 hd.s_208) (Value.str hd.s_208 768) (Value.int (36 : Int) 704)) :: (DictEntry.mk (PyData.keyHash v0 hd.s_209) (Value.str hd.s_209 770) (Value.int (12 : Int) 656)) :: (DictEntry.mk (PyData.keyHash v0 hd.s_85) (Value.str hd.s_85 772) (Value.int (15 : Int) 662)) :: (DictEntry.mk (PyData.keyHash v0 hd.s_210) (Value.str hd.s_210 774) (Value.int (37 : Int) 706)) :: (DictEntry.mk (PyData.keyHash v0 hd.s_211) (Value.str hd.s_211 776) (Value.int (51 : Int) 734)) :: (DictEntry.mk (PyData.keyHash v0 hd.s_78) (Value.str hd.s_78 778) (Value.int (23 : Int) 678)) :: (DictEntry.mk (PyData.keyHash v0 hd.s_212) (Value.str hd.s_212 780) (Value.int (52 : Int) 736)) :: (DictEntry.mk (PyData.keyHash v0 hd.s_213) (Value.str hd.s_213 782) (Value.int (17 : Int) 666)) :: (DictEntry.mk (PyData.keyHash v0 hd.s_214) (Value.str hd.s_214 784) (Value.int (47 : Int) 726)) :: (DictEntry.mk (PyData.keyHash v0 hd.s_215) (Value.str hd.s_215 786) (Value.int (48 : Int) 728)) :: (DictEntry.mk (PyData.keyHash v0 hd.s_216) (Value.str hd.s_216 788) (Value.int (39 : Int) 710)) :: (DictEntry.mk (PyData.keyHash v0 hd.s_217) (Value.str hd.s_217 790) (Value.int (11 : Int) 654)) :: (DictEntry.mk (PyData.keyHash v0 hd.s_218) (Value.str hd.s_218 792) (Value.int (53 : Int) 738)) :: (DictEntry.mk (PyData.keyHash v0 hd.s_219) (Value.str hd.s_219 794) (Value.int (13 : Int) 658)) :: (DictEntry.mk (PyData.keyHash v0 hd.s_220) (Value.str hd.s_220 796) (Value.int (20 : Int) 672)) :: (DictEntry.mk (PyData.keyHash v0 hd.s_221) (Value.str hd.s_221 798) (Value.int (33 : Int) 698)) :: (DictEntry.mk (PyData.keyHash v0 hd.s_222) (Value.str hd.s_222 800) (Value.int (44 : Int) 720)) :: (DictEntry.mk (PyData.keyHash v0 hd.s_223) (Value.str hd.s_223 802) (Value.int (29 : Int) 690)) :: (DictEntry.mk (PyData.keyHash v0 hd.s_224) (Value.str hd.s_224 804) (Value.int (22 : Int) 676)) :: (DictEntry.mk (PyData.keyHash v0 hd.s_225) (Value.str hd.s_225 806) (Value.int (27 : Int) 686)) :: (DictEntry.mk (PyData.keyHash v0 hd.s_226) (Value.str hd.s_226 808) (Value.int (21 : Int) 674)) :: (DictEntry.mk (PyData.keyHash v0 hd.s_227) (Value.str hd.s_227 810) (Value.int (30 : Int) 692)) :: (DictEntry.mk (PyData.keyHash v0 hd.s_228) (Value.str hd.s_228 811) (Value.int (34 : Int) 700)) :: (DictEntry.mk (PyData.keyHash v0 hd.s_229) (Value.str hd.s_229 812) (Value.int (45 : Int) 722)) :: (DictEntry.mk (PyData.keyHash v0 hd.s_94) (Value.str hd.s_94 813) (Value.int (49 : Int) 730)) :: (DictEntry.mk (PyData.keyHash v0 hd.s_230) (Value.str hd.s_230 814) (Value.int (50 : Int) 732)) :: (DictEntry.mk (PyData.keyHash v0 hd.s_231) (Value.str hd.s_231 815) (Value.int (9 : Int) 650)) :: (DictEntry.mk (PyData.keyHash v0 hd.s_232) (Value.str hd.s_232 816) (Value.int (10 : Int) 652)) :: (DictEntry.mk (PyData.keyHash v0 hd.s_233) (Value.str hd.s_233 817) (Value.int (32 : Int) 696)) :: (DictEntry.mk (PyData.keyHash v0 hd.s_234) (Value.str hd.s_234 818) (Value.int (43 : Int) 718)) :: (DictEntry.mk (PyData.keyHash v0 hd.s_235) (Value.str hd.s_235 819) (Value.int (25 : Int) 682)) :: (DictEntry.mk (PyData.keyHash v0 hd.s_236) (Value.str hd.s_236 820) (Value.int (18 : Int) 668)) :: (DictEntry.mk (PyData.keyHash v0 hd.s_237) (Value.str hd.s_237 821) (Value.int (42 : Int) 716)) :: (DictEntry.mk (PyData.keyHash v0 hd.s_238) (Value.str hd.s_238 822) (Value.int (26 : Int) 684)) :: (DictEntry.mk (PyData.keyHash v0 hd.s_239) (Value.str hd.s_239 823) (Value.int (31 : Int) 694)) :: [])) 48) #[]))
noncomputable def hd.o_278 : ((v0 : Params) → Obj) := (fun (v0 : Params) => (Obj.mk (Value.type "dict") none (Data.dict #[(DictEntry.mk (PyData.keyHash v0 hd.s_211) (Value.str hd.s_211 776) (Value.int (51 : Int) 734)), (DictEntry.mk (PyData.keyHash v0 hd.s_78) (Value.str hd.s_78 778) (Value.int (23 : Int) 678)), (DictEntry.mk (PyData.keyHash v0 hd.s_212) (Value.str hd.s_212 780) (Value.int (52 : Int) 736)), (DictEntry.mk (PyData.keyHash v0 hd.s_213) (Value.str hd.s_213 782) (Value.int (17 : Int) 666)), (DictEntry.mk (PyData.keyHash v0 hd.s_214) (Value.str hd.s_214 784) (Value.int (47 : Int) 726)), (DictEntry.mk (PyData.keyHash v0 hd.s_215) (Value.str hd.s_215 786) (Value.int (48 : Int) 728)), (DictEntry.mk (PyData.keyHash v0 hd.s_216) (Value.str hd.s_216 788) (Value.int (39 : Int) 710)), (DictEntry.mk (PyData.keyHash v0 hd.s_217) (Value.str hd.s_217 790) (Value.int (11 : Int) 654)), (DictEntry.mk (PyData.keyHash v0 hd.s_218) (Value.str hd.s_218 792) (Value.int (53 : Int) 738)), (DictEntry.mk (PyData.keyHash v0 hd.s_219) (Value.str hd.s_219 794) (Value.int (13 : Int) 658)), (DictEntry.mk (PyData.keyHash v0 hd.s_220) (Value.str hd.s_220 796) (Value.int (20 : Int) 672)), (DictEntry.mk (PyData.keyHash v0 hd.s_221) (Value.str hd.s_221 798) (Value.int (33 : Int) 698)), (DictEntry.mk (PyData.keyHash v0 hd.s_222) (Value.str hd.s_222 800) (Value.int (44 : Int) 720)), (DictEntry.mk (PyData.keyHash v0 hd.s_223) (Value.str hd.s_223 802) (Value.int (29 : Int) 690)), (DictEntry.mk (PyData.keyHash v0 hd.s_224) (Value.str hd.s_224 804) (Value.int (22 : Int) 676)), (DictEntry.mk (PyData.keyHash v0 hd.s_225) (Value.str hd.s_225 806) (Value.int (27 : Int) 686)), (DictEntry.mk (PyData.keyHash v0 hd.s_226) (Value.str hd.s_226 808) (Value.int (21 : Int) 674))] 17) #[]))
noncomputable def hd.o_279 : ((v0 : Params) → Obj) := (fun (v0 : Params) => (Obj.mk (Value.type "dict") none (Data.dict #[(DictEntry.mk (PyData.keyHash v0 hd.s_227) (Value.str hd.s_227 810) (Value.int (30 : Int) 692)), (DictEntry.mk (PyData.keyHash v0 hd.s_228) (Value.str hd.s_228 811) (Value.int (34 : Int) 700)), (DictEntry.mk (PyData.keyHash v0 hd.s_229) (Value.str hd.s_229 812) (Value.int (45 : Int) 722)), (DictEntry.mk (PyData.keyHash v0 hd.s_94) (Value.str hd.s_94 813) (Value.int (49 : Int) 730)), (DictEntry.mk (PyData.keyHash v0 hd.s_230) (Value.str hd.s_230 814) (Value.int (50 : Int) 732)), (DictEntry.mk (PyData.keyHash v0 hd.s_231) (Value.str hd.s_231 815) (Value.int (9 : Int) 650)), (DictEntry.mk (PyData.keyHash v0 hd.s_232) (Value.str hd.s_232 816) (Value.int (10 : Int) 652)), (DictEntry.mk (PyData.keyHash v0 hd.s_233) (Value.str hd.s_233 817) (Value.int (32 : Int) 696)), (DictEntry.mk (PyData.keyHash v0 hd.s_234) (Value.str hd.s_234 818) (Value.int (43 : Int) 718)), (DictEntry.mk (PyData.keyHash v0 hd.s_235) (Value.str hd.s_235 819) (Value.int (25 : Int) 682)), (DictEntry.mk (PyData.keyHash v0 hd.s_236) (Value.str hd.s_236 820) (Value.int (18 : Int) 668)), (DictEntry.mk (PyData.keyHash v0 hd.s_237) (Value.str hd.s_237 821) (Value.int (42 : Int) 716)), (DictEntry.mk (PyData.keyHash v0 hd.s_238) (Value.str hd.s_238 822) (Value.int (26 : Int) 684)), (DictEntry.mk (PyData.keyHash v0 hd.s_239) (Value.str hd.s_239 823) (Value.int (31 : Int) 694))] 14) #[]))
noncomputable def hd.o_280 : ((v0 : Params) → Obj) := (fun (v0 : Params) => (Obj.mk (Value.type "tuple") none (Data.seq #[] 0) #[]))
noncomputable def hd.o_281 : ((v0 : Params) → Obj) := (fun (v0 : Params) => (Obj.mk Value.none none (Data.fields #[]) #[]))
noncomputable def hd.o_282 : ((v0 : Params) → Obj) := (fun (v0 : Params) => (Obj.mk Value.none none (Data.func (FuncData.mk hd.s_65 hd.s_65 (hd.fa 58) (FuncBody.stmts (hd.fb 58)) (hd.fc 58) 0 [] Value.none Value.none Value.none Value.none none Value.none Value.none 0)) #[]))
noncomputable def hd.o_283 : ((v0 : Params) → Obj) := (fun (v0 : Params) => (Obj.mk (Value.type "code") none (Data.fields #[(Value.str hd.s_65 841), (Value.str hd.s_65 842), (Value.str hd.s_9 843), (Value.int (98 : Int) 0), (Value.int (1 : Int) 0), (Value.int (0 : Int) 0), (Value.int (0 : Int) 0), (Value.int (3 : Int) 0), (Value.ref 236), (Value.bool Bool.true), (Value.int (181 : Int) 0), (Value.ref 237), Value.none, Value.none, Value.none, (Value.ref 238), (Value.int (844 : Int) 0), (Value.int (98 : Int) 0), (Value.str hd.s_9 845)]) #[]))
noncomputable def hd.o_284 : ((v0 : Params) → Obj) := (fun (v0 : Params) => (Obj.mk (Value.type "function") none (Data.func (FuncData.mk hd.s_65 hd.s_65 (hd.fa 58) (FuncBody.stmts (hd.fb 58)) (hd.fc 58) 3 [] Value.none Value.none Value.none (Value.str hd.s_1 839) none (Value.ref 239) Value.none 0)) #[]))
noncomputable def hd.o_285 : ((v0 : Params) → Obj) := (fun (v0 : Params) => (Obj.mk (Value.type "tuple") none (Data.seq #[] 0) #[]))
noncomputable def hd.o_286 : ((v0 : Params) → Obj) := (fun (v0 : Params) => (Obj.mk Value.none none (Data.fields #[]) #[]))
noncomputable def hd.o_287 : ((v0 : Params) → Obj) := (fun (v0 : Params) => (Obj.mk (Value.type "tuple") none (Data.seq #[(Value.str hd.s_250 850), (Value.str hd.s_241 851), (Value.str hd.s_251 852), (Value.str hd.s_252 853), (Value.str hd.s_253 854)] 0) #[]))
noncomputable def hd.o_288 : ((v0 : Params) → Obj) := (fun (v0 : Params) => (Obj.mk (Value.type "tuple") none (Data.seq #[] 0) #[]))
noncomputable def hd.o_289 : ((v0 : Params) → Obj) := (fun (v0 : Params) => (Obj.mk Value.none none (Data.func (FuncData.mk hd.s_66 hd.s_66 (hd.fa 59) (FuncBody.stmts (hd.fb 59)) (hd.fc 59) 0 [] Value.none Value.none Value.none Value.none none Value.none Value.none 0)) #[]))
noncomputable def hd.o_290 : ((v0 : Params) → Obj) := (fun (v0 : Params) => (Obj.mk (Value.type "code") none (Data.fields #[(Value.str hd.s_66 847), (Value.str hd.s_66 848), (Value.str hd.s_9 849), (Value.int (112 : Int) 0), (Value.int (1 : Int) 0), (Value.int (0 : Int) 0), (Value.int (0 : Int) 0), (Value.int (3 : Int) 0), (Value.ref 241), (Value.bool Bool.true), (Value.int (181 : Int) 0), (Value.ref 242), Value.none, (Value.ref 243), (Value.ref 244), (Value.ref 245), (Value.int (855 : Int) 0), (Value.int (112 : Int) 0), (Value.str hd.s_9 856)]) #[]))
noncomputable def hd.o_291 : ((v0 : Params) → Obj) := (fun (v0 : Params) => (Obj.mk (Value.type "function") none (Data.func (FuncData.mk hd.s_66 hd.s_66 (hd.fa 59) (FuncBody.stmts (hd.fb 59)) (hd.fc 59) 3 [] Value.none Value.none Value.none (Value.str hd.s_1 839) none (Value.ref 246) Value.none 0)) #[]))
noncomputable def hd.o_292 : ((v0 : Params) → Obj) := (fun (v0 : Params) => (Obj.mk (Value.type "tuple") none (Data.seq #[] 0) #[]))
noncomputable def hd.o_293 : ((v0 : Params) → Obj) := (fun (v0 : Params) => (Obj.mk Value.none none (Data.fields #[]) #[]))
noncomputable def hd.o_294 : ((v0 : Params) → Obj) := (fun (v0 : Params) => (Obj.mk (Value.type "tuple") none (Data.seq #[(Value.str hd.s_254 861), (Value.str hd.s_255 862)] 0) #[]))
noncomputable def hd.o_295 : ((v0 : Params) → Obj) := (fun (v0 : Params) => (Obj.mk (Value.type "tuple") none (Data.seq #[] 0) #[]))
noncomputable def hd.o_296 : ((v0 : Params) → Obj) := (fun (v0 : Params) => (Obj.mk Value.none none (Data.func (FuncData.mk hd.s_67 hd.s_67 (hd.fa 60) (FuncBody.stmts (hd.fb 60)) (hd.fc 60) 0 [] Value.none Value.none Value.none Value.none none Value.none Value.none 0)) #[]))
noncomputable def hd.o_297 : ((v0 : Params) → Obj) := (fun (v0 : Params) => (Obj.mk (Value.type "code") none (Data.fields #[(Value.str hd.s_67 858), (Value.str hd.s_67 859), (Value.str hd.s_9 860), (Value.int (130 : Int) 0), (Value.int (2 : Int) 0), (Value.int (0 : Int) 0), (Value.int (0 : Int) 0), (Value.int (3 : Int) 0), (Value.ref 248), (Value.bool Bool.true), (Value.int (181 : Int) 0), (Value.ref 249), Value.none, (Value.ref 250), (Value.ref 251), (Value.ref 252), (Value.int (863 : Int) 0), (Value.int (130 : Int) 0), (Value.str hd.s_9 864)]) #[]))
noncomputable def hd.o_298 : ((v0 : Params) → Obj) := (fun (v0 : Params) => (Obj.mk (Value.type "function") none (Data.func (FuncData.mk hd.s_67 hd.s_67 (hd.fa 60) (FuncBody.stmts (hd.fb 60)) (hd.fc 60) 3 [] Value.none Value.none Value.none (Value.str hd.s_1 839) none (Value.ref 253) Value.none 0)) #[]))
noncomputable def hd.o_299 : ((v0 : Params) → Obj) := (fun (v0 : Params) => (Obj.mk (Value.type "tuple") none (Data.seq #[] 0) #[]))
noncomputable def hd.o_300 : ((v0 : Params) → Obj) := (fun (v0 : Params) => (Obj.mk Value.none none (Data.fields #[]) #[]))
noncomputable def hd.o_301 : ((v0 : Params) → Obj) := (fun (v0 : Params) => (Obj.mk Value.none none (Data.func (FuncData.mk hd.s_68 hd.s_68 (hd.fa 61) (FuncBody.stmts (hd.fb 61)) (hd.fc 61) 0 [] Value.none Value.none Value.none Value.none none Value.none Value.none 0)) #[]))
noncomputable def hd.o_302 : ((v0 : Params) → Obj) := (fun (v0 : Params) => (Obj.mk (Value.type "code") none (Data.fields #[(Value.str hd.s_68 866), (Value.str hd.s_68 867), (Value.str hd.s_9 868), (Value.int (134 : Int) 0), (Value.int (2 : Int) 0), (Value.int (0 : Int) 0), (Value.int (0 : Int) 0), (Value.int (3 : Int) 0), (Value.ref 255), (Value.bool Bool.true), (Value.int (181 : Int) 0), (Value.ref 256), Value.none, Value.none, Value.none, (Value.ref 257), (Value.int (869 : Int) 0), (Value.int (134 : Int) 0), (Value.str hd.s_9 870)]) #[]))
noncomputable def hd.o_303 : ((v0 : Params) → Obj) := (fun (v0 : Params) => (Obj.mk (Value.type "function") none (Data.func (FuncData.mk hd.s_68 hd.s_68 (hd.fa 61) (FuncBody.stmts (hd.fb 61)) (hd.fc 61) 3 [] Value.none Value.none Value.none (Value.str hd.s_1 839) none (Value.ref 258) Value.none 0)) #[]))
noncomputable def hd.o_304 : ((v0 : Params) → Obj) := (fun (v0 : Params) => (Obj.mk (Value.type "tuple") none (Data.seq #[] 0) #[]))
noncomputable def hd.o_305 : ((v0 : Params) → Obj) := (fun (v0 : Params) => (Obj.mk Value.none none (Data.fields #[]) #[]))
noncomputable def hd.o_306 : ((v0 : Params) → Obj) := (fun (v0 : Params) => (Obj.mk (Value.type "tuple") none (Data.seq #[(Value.str hd.s_265 875), (Value.str hd.s_266 876), (Value.str hd.s_267 877), (Value.str hd.s_268 878)] 0) #[]))
noncomputable def hd.o_307 : ((v0 : Params) → Obj) := (fun (v0 : Params) => (Obj.mk (Value.type "tuple") none (Data.seq #[] 0) #[]))
noncomputable def hd.o_308 : ((v0 : Params) → Obj) := (fun (v0 : Params) => (Obj.mk Value.none none (Data.func (FuncData.mk hd.s_69 hd.s_69 (hd.fa 62) (FuncBody.stmts (hd.fb 62)) (hd.fc 62) 0 [] Value.none Value.none Value.none Value.none none Value.none Value.none 0)) #[]))
noncomputable def hd.o_309 : ((v0 : Params) → Obj) := (fun (v0 : Params) => (Obj.mk (Value.type "code") none (Data.fields #[(Value.str hd.s_69 872), (Value.str hd.s_69 873), (Value.str hd.s_9 874), (Value.int (143 : Int) 0), (Value.int (1 : Int) 0), (Value.int (0 : Int) 0), (Value.int (0 : Int) 0), (Value.int (3 : Int) 0), (Value.ref 260), (Value.bool Bool.true), (Value.int (181 : Int) 0), (Value.ref 261), Value.none, (Value.ref 262), (Value.ref 263), (Value.ref 264), (Value.int (879 : Int) 0), (Value.int (143 : Int) 0), (Value.str hd.s_9 880)]) #[]))
noncomputable def hd.o_310 : ((v0 : Params) → Obj) := (fun (v0 : Params) => (Obj.mk (Value.type "function") none (Data.func (FuncData.mk hd.s_69 hd.s_69 (hd.fa 62) (FuncBody.stmts (hd.fb 62)) (hd.fc 62) 3 [] Value.none Value.none Value.none (Value.str hd.s_1 839) none (Value.ref 265) Value.none 0)) #[]))
noncomputable def hd.o_311 : ((v0 : Params) → Obj) := (fun (v0 : Params) => (Obj.mk (Value.type "tuple") none (Data.seq #[] 0) #[]))
noncomputable def hd.o_312 : ((v0 : Params) → Obj) := (fun (v0 : Params) => (Obj.mk Value.none none (Data.fields #[]) #[]))
noncomputable def hd.o_313 : ((v0 : Params) → Obj) := (fun (v0 : Params) => (Obj.mk Value.none none (Data.func (FuncData.mk hd.s_70 hd.s_70 (hd.fa 63) (FuncBody.stmts (hd.fb 63)) (hd.fc 63) 0 [] Value.none Value.none Value.none Value.none none Value.none Value.none 0)) #[]))
noncomputable def hd.o_314 : ((v0 : Params) → Obj) := (fun (v0 : Params) => (Obj.mk (Value.type "code") none (Data.fields #[(Value.str hd.s_70 882), (Value.str hd.s_70 883), (Value.str hd.s_9 884), (Value.int (152 : Int) 0), (Value.int (1 : Int) 0), (Value.int (0 : Int) 0), (Value.int (0 : Int) 0), (Value.int (3 : Int) 0), (Value.ref 267), (Value.bool Bool.true), (Value.int (181 : Int) 0), (Value.ref 268), Value.none, Value.none, Value.none, (Value.ref 269), (Value.int (885 : Int) 0), (Value.int (152 : Int) 0), (Value.str hd.s_9 886)]) #[]))
noncomputable def hd.o_315 : ((v0 : Params) → Obj) := (fun (v0 : Params) => (Obj.mk (Value.type "function") none (Data.func (FuncData.mk hd.s_70 hd.s_70 (hd.fa 63) (FuncBody.stmts (hd.fb 63)) (hd.fc 63) 3 [] Value.none Value.none Value.none (Value.str hd.s_1 839) none (Value.ref 270) Value.none 0)) #[]))
noncomputable def hd.heap_318 : ((v0 : Params) → Heap) := (fun (v0 : Params) => (Heap.mk (@Array.mk.{0} Obj ((boot_o_0 v0) :: (boot_o_1 v0) :: (boot_o_2 v0) :: (hd.o_275 v0) :: (boot_o_4 v0) :: (boot_o_5 v0) :: (boot_o_6 v0) :: (boot_o_7 v0) :: (boot_o_8 v0) :: (boot_o_9 v0) :: (boot_o_10 v0) :: (hd.o_43 v0) :: (hd.o_276 v0) :: (hd.o_45 v0) :: (hd.o_46 v0) :: (hd.o_51 v0) :: (hd.o_52 v0) :: (hd.o_53 v0) :: (hd.o_54 v0) :: (hd.o_55 v0) :: (hd.o_56 v0) :: (hd.o_57 v0) :: (hd.o_58 v0) :: (hd.o_59 v0) :: (hd.o_60 v0) :: (hd.o_61 v0) :: (hd.o_62 v0) :: (hd.o_63 v0) :: (hd.o_64 v0) :: (hd.o_65 v0) :: (hd.o_66 v0) :: (hd.o_67 v0) :: (hd.o_68 v0) :: (hd.o_69 v0) :: (hd.o_70 v0) :: (hd.o_71 v0) :: (hd.o_72 v0) :: (hd.o_73 v0) :: (hd.o_74 v0) :: (hd.o_75 v0) :: (hd.o_76 v0) :: (hd.o_77 v0) :: (hd.o_78 v0) :: (hd.o_85 v0) :: (hd.o_80 v0) :: (hd.o_81 v0) :: (hd.o_86 v0) :: (hd.o_87 v0) :: (hd.o_88 v0) :: (hd.o_89 v0) :: (hd.o_90 v0) :: (hd.o_91 v0) :: (hd.o_92 v0) :: (hd.o_93 v0) :: (hd.o_94 v0) :: (hd.o_95 v0) :: (hd.o_96 v0) :: (hd.o_97 v0) :: (hd.o_98 v0) :: (hd.o_99 v0) :: (hd.o_100 v0) :: (hd.o_101 v0) :: (hd.o_102 v0) :: (hd.o_103 v0) :: (hd.o_104 v0) :: (hd.o_105 v0) :: (hd.o_106 v0) :: (hd.o_107 v0) :: (hd.o_108 v0) :: (hd.o_109 v0) :: (hd.o_110 v0) :: (hd.o_111 v0) :: (hd.o_112 v0) :: (hd.o_113 v0) :: (hd.o_114 v0) :: (hd.o_115 v0) :: (hd.o_116 v0) :: (hd.o_117 v0) :: (hd.o_118 v0) :: (hd.o_119 v0) :: (hd.o_120 v0) :: (hd.o_121 v0) :: (hd.o_122 v0) :: (hd.o_123 v0) :: (hd.o_124 v0) :: (hd.o_125 v0) :: (hd.o_126 v0) :: (hd.o_127 v0) :: (hd.o_128 v0) :: (hd.o_129 v0) :: (hd.o_130 v0) :: (hd.o_131 v0) :: (hd.o_132 v0) :: (hd.o_133 v0) :: (hd.o_134 v0) :: (hd.o_135 v0) :: (hd.o_136 v0) :: (hd.o_137 v0) :: (hd.o_138 v0) :: (hd.o_139 v0) :: (hd.o_140 v0) :: (hd.o_141 v0) :: (hd.o_142 v0) :: (hd.o_143 v0) :: (hd.o_144 v0) :: (hd.o_145 v0) :: (hd.o_146 v0) :: (hd.o_147 v0) :: (hd.o_148 v0) :: (hd.o_149 v0) :: (hd.o_150 v0) :: (hd.o_151 v0) :: (hd.o_152 v0) :: (hd.o_153 v0) :: (hd.o_154 v0) :: (hd.o_155 v0) :: (hd.o_156 v0) :: (hd.o_157 v0) :: (hd.o_158 v0) :: (hd.o_159 v0) :: (hd.o_160 v0) :: (hd.o_161 v0) :: (hd.o_162 v0) :: (hd.o_163 v0) :: (hd.o_164 v0) :: (hd.o_165 v0) :: (hd.o_166 v0) :: (hd.o_167 v0) :: (hd.o_168 v0) :: (hd.o_169 v0) :: (hd.o_170 v0) :: (hd.o_171 v0) :: (hd.o_172 v0) :: (hd.o_173 v0) :: (hd.o_174 v0) :: (hd.o_175 v0) :: (hd.o_176 v0) :: (hd.o_177 v0) :: (hd.o_178 v0) :: (hd.o_179 v0) :: (hd.o_180 v0) :: (hd.o_181 v0) :: (hd.o_182 v0) :: (hd.o_183 v0) :: (hd.o_184 v0) :: (hd.o_185 v0) :: (hd.o_186 v0) :: (hd.o_187 v0) :: (hd.o_188 v0) :: (hd.o_189 v0) :: (hd.o_190 v0) :: (hd.o_191 v0) :: (hd.o_192 v0) :: (hd.o_193 v0) :: (hd.o_194 v0) :: (hd.o_195 v0) :: (hd.o_196 v0) :: (hd.o_197 v0) :: (hd.o_198 v0) :: (hd.o_199 v0) :: (hd.o_200 v0) :: (hd.o_201 v0) :: (hd.o_202 v0) :: (hd.o_203 v0) :: (hd.o_204 v0) :: (hd.o_205 v0) :: (hd.o_206 v0) :: (hd.o_207 v0) :: (hd.o_208 v0) :: (hd.o_209 v0) :: (hd.o_210 v0) :: (hd.o_211 v0) :: (hd.o_212 v0) :: (hd.o_213 v0) :: (hd.o_214 v0) :: (hd.o_215 v0) :: (hd.o_216 v0) :: (hd.o_217 v0) :: (hd.o_218 v0) :: (hd.o_219 v0) :: (hd.o_220 v0) :: (hd.o_221 v0) :: (hd.o_222 v0) :: (hd.o_223 v0) :: (hd.o_224 v0) :: (hd.o_225 v0) :: (hd.o_226 v0) :: (hd.o_227 v0) :: (hd.o_228 v0) :: (hd.o_229 v0) :: (hd.o_230 v0) :: (hd.o_231 v0) :: (hd.o_232 v0) :: (hd.o_233 v0) :: (hd.o_234 v0) :: (hd.o_235 v0) :: (hd.o_236 v0) :: (hd.o_237 v0) :: (hd.o_238 v0) :: (hd.o_239 v0) :: (hd.o_240 v0) :: (hd.o_241 v0) :: (hd.o_242 v0) :: (hd.o_243 v0) :: (hd.o_244 v0) :: (hd.o_245 v0) :: (hd.o_246 v0) :: (hd.o_247 v0) :: (hd.o_248 v0) :: (hd.o_249 v0) :: (hd.o_250 v0) :: (hd.o_251 v0) :: (hd.o_252 v0) :: (hd.o_253 v0) :: (hd.o_254 v0) :: (hd.o_255 v0) :: (hd.o_256 v0) :: (hd.o_257 v0) :: (hd.o_258 v0) :: (hd.o_259 v0) :: (hd.o_260 v0) :: (hd.o_261 v0) :: (hd.o_262 v0) :: (hd.o_263 v0) :: (hd.o_264 v0) :: (hd.o_265 v0) :: (hd.o_266 v0) :: (hd.o_267 v0) :: (hd.o_268 v0) :: (hd.o_269 v0) :: (hd.o_270 v0) :: (hd.o_271 v0) :: (hd.o_272 v0) :: (hd.o_277 v0) :: (hd.o_278 v0) :: (hd.o_279 v0) :: (hd.o_280 v0) :: (hd.o_281 v0) :: (hd.o_282 v0) :: (hd.o_283 v0) :: (hd.o_284 v0) :: (hd.o_285 v0) :: (hd.o_286 v0) :: (hd.o_287 v0) :: (hd.o_288 v0) :: (hd.o_289 v0) :: (hd.o_290 v0) :: (hd.o_291 v0) :: (hd.o_292 v0) :: (hd.o_293 v0) :: (hd.o_294 v0) :: (hd.o_295 v0) :: (hd.o_296 v0) :: (hd.o_297 v0) :: (hd.o_298 v0) :: (hd.o_299 v0) :: (hd.o_300 v0) :: (hd.o_301 v0) :: (hd.o_302 v0) :: (hd.o_303 v0) :: (hd.o_304 v0) :: (hd.o_305 v0) :: (hd.o_306 v0) :: (hd.o_307 v0) :: (hd.o_308 v0) :: (hd.o_309 v0) :: (hd.o_310 v0) :: (hd.o_311 v0) :: (hd.o_312 v0) :: (hd.o_313 v0) :: (hd.o_314 v0) :: (hd.o_315 v0) :: [])) (Life.mk [] [] [] 0 [] [] Bool.false #[] [] 0 Bool.false Bool.false Bool.false (0 : Int) [(2000 : Int), (10 : Int), (10 : Int)] Bool.false 0 Bool.true [] [] 0 Bool.false)))
noncomputable def hd.o_44 : ((v0 : Params) → Obj) := (fun (v0 : Params) => (Obj.mk Value.none none (Data.fields #[]) #[]))
noncomputable def hd.heap_46 : ((v0 : Params) → Heap) := (fun (v0 : Params) => (Heap.mk (@Array.mk.{0} Obj [(boot_o_0 v0), (boot_o_1 v0), (boot_o_2 v0), (boot_o_3 v0), (boot_o_4 v0), (boot_o_5 v0), (boot_o_6 v0), (boot_o_7 v0), (boot_o_8 v0), (boot_o_9 v0), (boot_o_10 v0), (hd.o_43 v0), (hd.o_44 v0), (hd.o_45 v0), (hd.o_46 v0)]) (Life.mk [] [] [] 0 [] [] Bool.false #[] [] 0 Bool.false Bool.false Bool.false (0 : Int) [(2000 : Int), (10 : Int), (10 : Int)] Bool.false 0 Bool.true [] [] 0 Bool.false)))
noncomputable def hd.env_41 : Env := (Env.mk (Module.scope (Program.main ((OpenRow.toRowW (OpenLaw.row Challenge.rw_il0204_01))).1)) mainNs mainNs [] Str.empty none (Value.ref 13) (some (@OfNat.ofNat.{0} Addr (nat_lit 14) (instOfNatNat (nat_lit 14)))) (@OfNat.ofNat.{0} Addr (nat_lit 0) (instOfNatNat (nat_lit 0))))
theorem hd.p_47 : ((v0 : World) → ((fun (v1 : OsState) => (topGo treeTable ((OpenRow.toRowW (OpenLaw.row Challenge.rw_il0204_01))).1 v0 (nat_lit 11) (some (Value.ref 6)) (nat_lit 12) (Shared.mk (boot_heap (World.params v0)) (@Array.mk.{0} GenState []) boot_drawn boot_toks v1) (topStub ((OpenRow.toRowW (OpenLaw.row Challenge.rw_il0204_01))).1))) = (fun (v1 : OsState) => (some ((Shared.mk (hd.heap_46 (World.params v0)) (@Array.mk.{0} GenState []) (Drawn.mk 0 0 0 0) (nat_lit 187) v1), (Thread.mk (denote treeTable (Code.body (behindTheImports ((OpenRow.toRowW (OpenLaw.row Challenge.rw_il0204_01))).1) hd.env_41)) (Code.body (behindTheImports ((OpenRow.toRowW (OpenLaw.row Challenge.rw_il0204_01))).1) hd.env_41) ⟨0, 0, 0, 0⟩ [(topFrame ⟨0, 0, 0, 0⟩)])))))) := by
  intro v0
  rewrite [PySem.W.Fast.te15667345088766844465, PySem.W.Fast.te14364793385576792824, PySem.W.Fast.te2368527892694137696, PySem.W.Fast.te11892475500146522536]
  kernel_rfl
noncomputable def hd.tree_47 : ((v0 : Params) → BT) := (fun (v0 : Params) => (BT.node (boot_o_0 v0) (BT.node (boot_o_1 v0) (BT.node (boot_o_3 v0) (BT.node (boot_o_7 v0) BT.nil BT.nil) (BT.node (hd.o_43 v0) BT.nil BT.nil)) (BT.node (boot_o_5 v0) (BT.node (boot_o_9 v0) BT.nil BT.nil) (BT.node (hd.o_45 v0) BT.nil BT.nil))) (BT.node (boot_o_2 v0) (BT.node (boot_o_4 v0) (BT.node (boot_o_8 v0) BT.nil BT.nil) (BT.node (hd.o_44 v0) BT.nil BT.nil)) (BT.node (boot_o_6 v0) (BT.node (boot_o_10 v0) BT.nil BT.nil) (BT.node (hd.o_46 v0) BT.nil BT.nil)))))
theorem hd.p_49 : ((v0 : World) → ((fun (v1 : OsState) => (segRun treeTable ((OpenRow.toRowW (OpenLaw.row Challenge.rw_il0204_01))).1 v0 (nat_lit 11) (some (Value.ref 6)) (nat_lit 1) (nat_lit 1) (Shared.mk (hd.heap_46 (World.params v0)) (@Array.mk.{0} GenState []) (Drawn.mk 0 0 0 0) (nat_lit 187) v1) (blockOf (behindTheImports ((OpenRow.toRowW (OpenLaw.row Challenge.rw_il0204_01))).1) hd.env_41 (Code.body (behindTheImports ((OpenRow.toRowW (OpenLaw.row Challenge.rw_il0204_01))).1) hd.env_41) ⟨0, 0, 0, 0⟩ [(topFrame ⟨0, 0, 0, 0⟩)]))) = (fun (v1 : OsState) => (some (Flow.next, ((SharedT.abs (SharedT.mk (hd.tree_47 (World.params v0)) (nat_lit 15) (Life.mk [] [] [] 0 [] [] Bool.false #[] [] 0 Bool.false Bool.false Bool.false (0 : Int) [(2000 : Int), (10 : Int), (10 : Int)] Bool.false 0 Bool.true [] [] 0 Bool.false) (@Array.mk.{0} GenState []) (Drawn.mk 0 0 0 0) (nat_lit 187) v1)), ((Code.body (behindTheImports ((OpenRow.toRowW (OpenLaw.row Challenge.rw_il0204_01))).1) hd.env_41), ⟨0, 0, 0, 0⟩))))))) := by
  intro v0
  rewrite [PySem.W.Fast.te14374325043358763698, PySem.W.Fast.te14364793385576792824, PySem.W.Fast.te2368527892694137696]
  kernel_rfl
noncomputable def hd.o_49 : ((v0 : Params) → Obj) := (fun (v0 : Params) => (Obj.mk (Value.type "dict") none (Data.dict #[(DictEntry.mk (PyData.keyHash v0 hd.s_0) (Value.str hd.s_0 165) (Value.str hd.s_86 194)), (DictEntry.mk (PyData.keyHash v0 hd.s_2) (Value.str hd.s_2 166) Value.none), (DictEntry.mk (PyData.keyHash v0 hd.s_3) (Value.str hd.s_3 167) Value.none), (DictEntry.mk (PyData.keyHash v0 hd.s_4) (Value.str hd.s_4 168) (Value.builtin "__main__.__loader__#opaque")), (DictEntry.mk (PyData.keyHash v0 hd.s_5) (Value.str hd.s_5 169) Value.none), (DictEntry.mk (PyData.keyHash v0 hd.s_6) (Value.str hd.s_6 170) (Value.ref 6)), (DictEntry.mk (PyData.keyHash v0 hd.s_7) (Value.str hd.s_7 171) (Value.ref 4)), (DictEntry.mk (PyData.keyHash v0 hd.s_8) (Value.str hd.s_8 173) (Value.str hd.s_9 172)), (DictEntry.mk (PyData.keyHash v0 hd.s_10) (Value.str hd.s_10 174) Value.none), (DictEntry.mk (PyData.keyHash v0 hd.s_11) (Value.str hd.s_11 193) (Value.ref 21)), (DictEntry.mk (PyData.keyHash v0 hd.s_12) (Value.str hd.s_12 205) (Value.ref 28)), (DictEntry.mk (PyData.keyHash v0 hd.s_13) (Value.str hd.s_13 215) (Value.ref 35)), (DictEntry.mk (PyData.keyHash v0 hd.s_14) (Value.str hd.s_14 224) (Value.ref 42)), (DictEntry.mk (PyData.keyHash v0 hd.s_15) (Value.str hd.s_15 357) (Value.ref 43))] 14) #[]))
noncomputable def hd.o_79 : ((v0 : Params) → Obj) := (fun (v0 : Params) => (Obj.mk (Value.type "dict") none (Data.dict (List.toArray ((DictEntry.mk (PyData.keyHash v0 hd.s_101) (Value.str hd.s_101 225) (Value.str hd.s_97 226)) :: (DictEntry.mk (PyData.keyHash v0 hd.s_102) (Value.str hd.s_102 228) (Value.str hd.s_97 229)) :: (DictEntry.mk (PyData.keyHash v0 hd.s_103) (Value.str hd.s_103 231) (Value.str hd.s_93 232)) :: (DictEntry.mk (PyData.keyHash v0 hd.s_104) (Value.str hd.s_104 234) (Value.str hd.s_105 235)) :: (DictEntry.mk (PyData.keyHash v0 hd.s_106) (Value.str hd.s_106 237) (Value.str hd.s_105 238)) :: (DictEntry.mk (PyData.keyHash v0 hd.s_107) (Value.str hd.s_107 240) (Value.str hd.s_108 241)) :: (DictEntry.mk (PyData.keyHash v0 hd.s_109) (Value.str hd.s_109 243) (Value.str hd.s_110 244)) :: (DictEntry.mk (PyData.keyHash v0 hd.s_111) (Value.str hd.s_111 246) (Value.str hd.s_112 247)) :: (DictEntry.mk (PyData.keyHash v0 hd.s_113) (Value.str hd.s_113 249) (Value.str hd.s_114 250)) :: (DictEntry.mk (PyData.keyHash v0 hd.s_115) (Value.str hd.s_115 252) (Value.str hd.s_116 253)) :: (DictEntry.mk (PyData.keyHash v0 hd.s_117) (Value.str hd.s_117 255) (Value.str hd.s_93 256)) :: (DictEntry.mk (PyData.keyHash v0 hd.s_118) (Value.str hd.s_118 258) (Value.str hd.s_119 259)) :: (DictEntry.mk (PyData.keyHash v0 hd.s_120) (Value.str hd.s_120 261) (Value.str hd.s_121 262)) :: (DictEntry.mk (PyData.keyHash v0 hd.s_122) (Value.str hd.s_122 264) (Value.str hd.s_91 265)) :: (DictEntry.mk (PyData.keyHash v0 hd.s_123) (Value.str hd.s_123 267) (Value.str hd.s_93 268)) :: (DictEntry.mk (PyData.keyHash v0 hd.s_124) (Value.str hd.s_124 270) (Value.str hd.s_93 271)) :: (DictEntry.mk (PyData.keyHash v0 hd.s_125) (Value.str hd.s_125 273) (Value.str hd.s_93 274)) :: (DictEntry.mk (PyData.keyHash v0 hd.s_126) (Value.str hd.s_126 276) (Value.str hd.s_127 277)) :: (DictEntry.mk (PyData.keyHash v0 hd.s_128) (Value.str hd.s_128 279) (Value.str hd.s_129 280)) :: (DictEntry.mk (PyData.keyHash v0 hd.s_130) (Value.str hd.s_130 282) (Value.str hd.s_131 283)) :: (DictEntry.mk (PyData.keyHash v0 hd.s_132) (Value.str hd.s_132 285) (Value.str hd.s_133 286)) :: (DictEntry.mk (PyData.keyHash v0 hd.s_134) (Value.str hd.s_134 288) (Value.str hd.s_91 289)) :: (DictEntry.mk (PyData.keyHash v0 hd.s_135) (Value.str hd.s_135 291) (Value.str hd.s_136 292)) :: (DictEntry.mk (PyData.keyHash v0 hd.s_137) (Value.str hd.s_137 294) (Value.str hd.s_119 295)) :: (DictEntry.mk (PyData.keyHash v0 hd.s_138) (Value.str hd.s_138 297) (Value.str hd.s_139 298)) :: (DictEntry.mk (PyData.keyHash v0 hd.s_140) (Value.str hd.s_140 300) (Value.str hd.s_141 301)) :: (DictEntry.mk (PyData.keyHash v0 hd.s_142) (Value.str hd.s_142 303) (Value.str hd.s_121 304)) :: (DictEntry.mk (PyData.keyHash v0 hd.s_143) (Value.str hd.s_143 306) (Value.str hd.s_144 307)) :: (DictEntry.mk (PyData.keyHash v0 hd.s_145) (Value.str hd.s_145 309) (Value.str hd.s_146 310)) :: (DictEntry.mk (PyData.keyHash v0 hd.s_147) (Value.str hd.s_147 312) (Value.str hd.s_148 313)) :: (DictEntry.mk (PyData.keyHash v0 hd.s_149) (Value.str hd.s_149 315) (Value.str hd.s_150 316)) :: (DictEntry.mk (PyData.keyHash v0 hd.s_151) (Value.str hd.s_151 318) (Value.str hd.s_105 319)) :: (DictEntry.mk (PyData.keyHash v0 hd.s_152) (Value.str hd.s_152 321) (Value.str hd.s_153 322)) :: (DictEntry.mk (PyData.keyHash v0 hd.s_154) (Value.str hd.s_154 324) (Value.str hd.s_155 325)) :: (DictEntry.mk (PyData.keyHash v0 hd.s_156) (Value.str hd.s_156 327) (Value.str hd.s_108 328)) :: (DictEntry.mk (PyData.keyHash v0 hd.s_157) (Value.str hd.s_157 329) (Value.str hd.s_158 330)) :: (DictEntry.mk (PyData.keyHash v0 hd.s_159) (Value.str hd.s_159 331) (Value.str hd.s_92 332)) :: (DictEntry.mk (PyData.keyHash v0 hd.s_160) (Value.str hd.s_160 333) (Value.str hd.s_161 334)) :: (DictEntry.mk (PyData.keyHash v0 hd.s_162) (Value.str hd.s_162 335) (Value.str hd.s_163 336)) :: (DictEntry.mk (PyData.keyHash v0 hd.s_164) (Value.str hd.s_164 337) (Value.str hd.s_165 338)) :: (DictEntry.mk (PyData.keyHash v0 hd.s_166) (Value.str hd.s_166 339) (Value.str hd.s_167 340)) :: (DictEntry.mk (PyData.keyHash v0 hd.s_168) (Value.str hd.s_168 341) (Value.str hd.s_112 342)) :: (DictEntry.mk (PyData.keyHash v0 hd.s_169) (Value.str hd.s_169 343) (Value.str hd.s_114 344)) :: (DictEntry.mk (PyData.keyHash v0 hd.s_170) (Value.str hd.s_170 345) (Value.str hd.s_116 346)) :: [])) 44) #[]))
noncomputable def hd.o_50 : ((v0 : Params) → Obj) := (fun (v0 : Params) => (Obj.mk Value.none none (Data.fields #[(Value.int (1 : Int) 0), (Value.int (0 : Int) 0), (Value.ref 20), (Value.int (5 : Int) 0), (Value.int (0 : Int) 0), (Value.ref 27), (Value.int (22 : Int) 0), (Value.int (0 : Int) 0), (Value.ref 34), (Value.int (32 : Int) 0), (Value.int (0 : Int) 0), (Value.ref 41)]) #[]))
noncomputable def hd.tree_81 : ((v0 : Params) → BT) := (fun (v0 : Params) => (BT.node (boot_o_0 v0) (BT.node (boot_o_1 v0) (BT.node (hd.o_49 v0) (BT.node (boot_o_7 v0) (BT.node (hd.o_51 v0) (BT.node (hd.o_67 v0) BT.nil BT.nil) BT.nil) (BT.node (hd.o_59 v0) (BT.node (hd.o_75 v0) BT.nil BT.nil) BT.nil)) (BT.node (hd.o_43 v0) (BT.node (hd.o_55 v0) (BT.node (hd.o_71 v0) BT.nil BT.nil) BT.nil) (BT.node (hd.o_63 v0) (BT.node (hd.o_79 v0) BT.nil BT.nil) BT.nil))) (BT.node (boot_o_5 v0) (BT.node (boot_o_9 v0) (BT.node (hd.o_53 v0) (BT.node (hd.o_69 v0) BT.nil BT.nil) BT.nil) (BT.node (hd.o_61 v0) (BT.node (hd.o_77 v0) BT.nil BT.nil) BT.nil)) (BT.node (hd.o_45 v0) (BT.node (hd.o_57 v0) (BT.node (hd.o_73 v0) BT.nil BT.nil) BT.nil) (BT.node (hd.o_65 v0) (BT.node (hd.o_81 v0) BT.nil BT.nil) BT.nil)))) (BT.node (boot_o_2 v0) (BT.node (boot_o_4 v0) (BT.node (boot_o_8 v0) (BT.node (hd.o_52 v0) (BT.node (hd.o_68 v0) BT.nil BT.nil) BT.nil) (BT.node (hd.o_60 v0) (BT.node (hd.o_76 v0) BT.nil BT.nil) BT.nil)) (BT.node (hd.o_50 v0) (BT.node (hd.o_56 v0) (BT.node (hd.o_72 v0) BT.nil BT.nil) BT.nil) (BT.node (hd.o_64 v0) (BT.node (hd.o_80 v0) BT.nil BT.nil) BT.nil))) (BT.node (boot_o_6 v0) (BT.node (boot_o_10 v0) (BT.node (hd.o_54 v0) (BT.node (hd.o_70 v0) BT.nil BT.nil) BT.nil) (BT.node (hd.o_62 v0) (BT.node (hd.o_78 v0) BT.nil BT.nil) BT.nil)) (BT.node (hd.o_46 v0) (BT.node (hd.o_58 v0) (BT.node (hd.o_74 v0) BT.nil BT.nil) BT.nil) (BT.node (hd.o_66 v0) BT.nil BT.nil))))))
noncomputable def hd.sts_49 : List Stmt := List.take 6 hd.body
noncomputable def hd.sts_84 : List Stmt := List.take 1 (List.drop 6 hd.body)
noncomputable def hd.sts_275 : List Stmt := List.drop 7 hd.body
theorem hd.p_82 : ((v0 : World) → ((fun (v1 : OsState) => (segRunT treeTable ((OpenRow.toRowW (OpenLaw.row Challenge.rw_il0204_01))).1 (World.withFollow v0 "special-get-raises" Bool.false) (nat_lit 11) (some (Value.ref 6)) (nat_lit 1) (nat_lit 980) (SharedT.mk (hd.tree_47 (World.params (World.withFollow v0 "special-get-raises" Bool.false))) (nat_lit 15) (Life.mk [] [] [] 0 [] [] Bool.false #[] [] 0 Bool.false Bool.false Bool.false (0 : Int) [(2000 : Int), (10 : Int), (10 : Int)] Bool.false 0 Bool.true [] [] 0 Bool.false) (@Array.mk.{0} GenState []) (Drawn.mk 0 0 0 0) (nat_lit 187) v1) (piecesOf hd.sts_49 hd.env_41 (Code.body (behindTheImports ((OpenRow.toRowW (OpenLaw.row Challenge.rw_il0204_01))).1) hd.env_41) ⟨0, 0, 0, 0⟩ [(topFrame ⟨0, 0, 0, 0⟩)]))) = (fun (v1 : OsState) => (some (Flow.next, ((SharedT.mk (hd.tree_81 (World.params (World.withFollow v0 "special-get-raises" Bool.false))) (nat_lit 46) (Life.mk [] [] [] 0 [] [] Bool.false #[] [] 0 Bool.false Bool.false Bool.false (0 : Int) [(2000 : Int), (10 : Int), (10 : Int)] Bool.false 0 Bool.true [] [] 0 Bool.false) (@Array.mk.{0} GenState []) (Drawn.mk 0 0 0 0) (nat_lit 358) v1), ((Code.body (behindTheImports ((OpenRow.toRowW (OpenLaw.row Challenge.rw_il0204_01))).1) hd.env_41), ⟨43, 0, 43, 21⟩))))))) := by
  intro v0
  rewrite [PySem.W.Fast.te10110043849684766642, PySem.W.Fast.te14364793385576792824, PySem.W.Fast.te2368527892694137696]
  kernel_rfl
theorem hd.p_84 : ((v0 : World) → ((fun (v1 : OsState) => (segRunT treeTable ((OpenRow.toRowW (OpenLaw.row Challenge.rw_il0204_01))).1 (World.withFollow v0 "special-get-raises" Bool.true) (nat_lit 11) (some (Value.ref 6)) (nat_lit 1) (nat_lit 980) (SharedT.mk (hd.tree_47 (World.params (World.withFollow v0 "special-get-raises" Bool.true))) (nat_lit 15) (Life.mk [] [] [] 0 [] [] Bool.false #[] [] 0 Bool.false Bool.false Bool.false (0 : Int) [(2000 : Int), (10 : Int), (10 : Int)] Bool.false 0 Bool.true [] [] 0 Bool.false) (@Array.mk.{0} GenState []) (Drawn.mk 0 0 0 0) (nat_lit 187) v1) (piecesOf hd.sts_49 hd.env_41 (Code.body (behindTheImports ((OpenRow.toRowW (OpenLaw.row Challenge.rw_il0204_01))).1) hd.env_41) ⟨0, 0, 0, 0⟩ [(topFrame ⟨0, 0, 0, 0⟩)]))) = (fun (v1 : OsState) => (some (Flow.next, ((SharedT.mk (hd.tree_81 (World.params (World.withFollow v0 "special-get-raises" Bool.true))) (nat_lit 46) (Life.mk [] [] [] 0 [] [] Bool.false #[] [] 0 Bool.false Bool.false Bool.false (0 : Int) [(2000 : Int), (10 : Int), (10 : Int)] Bool.false 0 Bool.true [] [] 0 Bool.false) (@Array.mk.{0} GenState []) (Drawn.mk 0 0 0 0) (nat_lit 358) v1), ((Code.body (behindTheImports ((OpenRow.toRowW (OpenLaw.row Challenge.rw_il0204_01))).1) hd.env_41), ⟨43, 0, 43, 21⟩))))))) := by
  intro v0
  rewrite [PySem.W.Fast.te10110043849684766642, PySem.W.Fast.te14364793385576792824, PySem.W.Fast.te2368527892694137696]
  kernel_rfl
noncomputable def hd.o_84 : ((v0 : Params) → Obj) := (fun (v0 : Params) => (Obj.mk (Value.type "dict") none (Data.dict #[(DictEntry.mk (PyData.keyHash v0 hd.s_0) (Value.str hd.s_0 165) (Value.str hd.s_86 194)), (DictEntry.mk (PyData.keyHash v0 hd.s_2) (Value.str hd.s_2 166) Value.none), (DictEntry.mk (PyData.keyHash v0 hd.s_3) (Value.str hd.s_3 167) Value.none), (DictEntry.mk (PyData.keyHash v0 hd.s_4) (Value.str hd.s_4 168) (Value.builtin "__main__.__loader__#opaque")), (DictEntry.mk (PyData.keyHash v0 hd.s_5) (Value.str hd.s_5 169) Value.none), (DictEntry.mk (PyData.keyHash v0 hd.s_6) (Value.str hd.s_6 170) (Value.ref 6)), (DictEntry.mk (PyData.keyHash v0 hd.s_7) (Value.str hd.s_7 171) (Value.ref 4)), (DictEntry.mk (PyData.keyHash v0 hd.s_8) (Value.str hd.s_8 173) (Value.str hd.s_9 172)), (DictEntry.mk (PyData.keyHash v0 hd.s_10) (Value.str hd.s_10 174) Value.none), (DictEntry.mk (PyData.keyHash v0 hd.s_11) (Value.str hd.s_11 193) (Value.ref 21)), (DictEntry.mk (PyData.keyHash v0 hd.s_12) (Value.str hd.s_12 205) (Value.ref 28)), (DictEntry.mk (PyData.keyHash v0 hd.s_13) (Value.str hd.s_13 215) (Value.ref 35)), (DictEntry.mk (PyData.keyHash v0 hd.s_14) (Value.str hd.s_14 224) (Value.ref 42)), (DictEntry.mk (PyData.keyHash v0 hd.s_15) (Value.str hd.s_15 357) (Value.ref 43)), (DictEntry.mk (PyData.keyHash v0 hd.s_73) (Value.str hd.s_73 358) (Value.str hd.s_194 643)), (DictEntry.mk (PyData.keyHash v0 hd.s_280) (Value.str hd.s_280 359) (Value.str hd.s_92 332))] 16) #[]))
noncomputable def hd.tree_272 : ((v0 : Params) → BT) := (fun (v0 : Params) => (BT.node (boot_o_0 v0) (BT.node (boot_o_1 v0) (BT.node (hd.o_84 v0) (BT.node (boot_o_7 v0) (BT.node (hd.o_51 v0) (BT.node (hd.o_67 v0) (BT.node (hd.o_103 v0) (BT.node (hd.o_167 v0) BT.nil BT.nil) (BT.node (hd.o_231 v0) BT.nil BT.nil)) (BT.node (hd.o_135 v0) (BT.node (hd.o_199 v0) BT.nil BT.nil) (BT.node (hd.o_263 v0) BT.nil BT.nil))) (BT.node (hd.o_87 v0) (BT.node (hd.o_119 v0) (BT.node (hd.o_183 v0) BT.nil BT.nil) (BT.node (hd.o_247 v0) BT.nil BT.nil)) (BT.node (hd.o_151 v0) (BT.node (hd.o_215 v0) BT.nil BT.nil) BT.nil))) (BT.node (hd.o_59 v0) (BT.node (hd.o_75 v0) (BT.node (hd.o_111 v0) (BT.node (hd.o_175 v0) BT.nil BT.nil) (BT.node (hd.o_239 v0) BT.nil BT.nil)) (BT.node (hd.o_143 v0) (BT.node (hd.o_207 v0) BT.nil BT.nil) (BT.node (hd.o_271 v0) BT.nil BT.nil))) (BT.node (hd.o_95 v0) (BT.node (hd.o_127 v0) (BT.node (hd.o_191 v0) BT.nil BT.nil) (BT.node (hd.o_255 v0) BT.nil BT.nil)) (BT.node (hd.o_159 v0) (BT.node (hd.o_223 v0) BT.nil BT.nil) BT.nil)))) (BT.node (hd.o_43 v0) (BT.node (hd.o_55 v0) (BT.node (hd.o_71 v0) (BT.node (hd.o_107 v0) (BT.node (hd.o_171 v0) BT.nil BT.nil) (BT.node (hd.o_235 v0) BT.nil BT.nil)) (BT.node (hd.o_139 v0) (BT.node (hd.o_203 v0) BT.nil BT.nil) (BT.node (hd.o_267 v0) BT.nil BT.nil))) (BT.node (hd.o_91 v0) (BT.node (hd.o_123 v0) (BT.node (hd.o_187 v0) BT.nil BT.nil) (BT.node (hd.o_251 v0) BT.nil BT.nil)) (BT.node (hd.o_155 v0) (BT.node (hd.o_219 v0) BT.nil BT.nil) BT.nil))) (BT.node (hd.o_63 v0) (BT.node (hd.o_85 v0) (BT.node (hd.o_115 v0) (BT.node (hd.o_179 v0) BT.nil BT.nil) (BT.node (hd.o_243 v0) BT.nil BT.nil)) (BT.node (hd.o_147 v0) (BT.node (hd.o_211 v0) BT.nil BT.nil) BT.nil)) (BT.node (hd.o_99 v0) (BT.node (hd.o_131 v0) (BT.node (hd.o_195 v0) BT.nil BT.nil) (BT.node (hd.o_259 v0) BT.nil BT.nil)) (BT.node (hd.o_163 v0) (BT.node (hd.o_227 v0) BT.nil BT.nil) BT.nil))))) (BT.node (boot_o_5 v0) (BT.node (boot_o_9 v0) (BT.node (hd.o_53 v0) (BT.node (hd.o_69 v0) (BT.node (hd.o_105 v0) (BT.node (hd.o_169 v0) BT.nil BT.nil) (BT.node (hd.o_233 v0) BT.nil BT.nil)) (BT.node (hd.o_137 v0) (BT.node (hd.o_201 v0) BT.nil BT.nil) (BT.node (hd.o_265 v0) BT.nil BT.nil))) (BT.node (hd.o_89 v0) (BT.node (hd.o_121 v0) (BT.node (hd.o_185 v0) BT.nil BT.nil) (BT.node (hd.o_249 v0) BT.nil BT.nil)) (BT.node (hd.o_153 v0) (BT.node (hd.o_217 v0) BT.nil BT.nil) BT.nil))) (BT.node (hd.o_61 v0) (BT.node (hd.o_77 v0) (BT.node (hd.o_113 v0) (BT.node (hd.o_177 v0) BT.nil BT.nil) (BT.node (hd.o_241 v0) BT.nil BT.nil)) (BT.node (hd.o_145 v0) (BT.node (hd.o_209 v0) BT.nil BT.nil) BT.nil)) (BT.node (hd.o_97 v0) (BT.node (hd.o_129 v0) (BT.node (hd.o_193 v0) BT.nil BT.nil) (BT.node (hd.o_257 v0) BT.nil BT.nil)) (BT.node (hd.o_161 v0) (BT.node (hd.o_225 v0) BT.nil BT.nil) BT.nil)))) (BT.node (hd.o_45 v0) (BT.node (hd.o_57 v0) (BT.node (hd.o_73 v0) (BT.node (hd.o_109 v0) (BT.node (hd.o_173 v0) BT.nil BT.nil) (BT.node (hd.o_237 v0) BT.nil BT.nil)) (BT.node (hd.o_141 v0) (BT.node (hd.o_205 v0) BT.nil BT.nil) (BT.node (hd.o_269 v0) BT.nil BT.nil))) (BT.node (hd.o_93 v0) (BT.node (hd.o_125 v0) (BT.node (hd.o_189 v0) BT.nil BT.nil) (BT.node (hd.o_253 v0) BT.nil BT.nil)) (BT.node (hd.o_157 v0) (BT.node (hd.o_221 v0) BT.nil BT.nil) BT.nil))) (BT.node (hd.o_65 v0) (BT.node (hd.o_81 v0) (BT.node (hd.o_117 v0) (BT.node (hd.o_181 v0) BT.nil BT.nil) (BT.node (hd.o_245 v0) BT.nil BT.nil)) (BT.node (hd.o_149 v0) (BT.node (hd.o_213 v0) BT.nil BT.nil) BT.nil)) (BT.node (hd.o_101 v0) (BT.node (hd.o_133 v0) (BT.node (hd.o_197 v0) BT.nil BT.nil) (BT.node (hd.o_261 v0) BT.nil BT.nil)) (BT.node (hd.o_165 v0) (BT.node (hd.o_229 v0) BT.nil BT.nil) BT.nil)))))) (BT.node (boot_o_2 v0) (BT.node (boot_o_4 v0) (BT.node (boot_o_8 v0) (BT.node (hd.o_52 v0) (BT.node (hd.o_68 v0) (BT.node (hd.o_104 v0) (BT.node (hd.o_168 v0) BT.nil BT.nil) (BT.node (hd.o_232 v0) BT.nil BT.nil)) (BT.node (hd.o_136 v0) (BT.node (hd.o_200 v0) BT.nil BT.nil) (BT.node (hd.o_264 v0) BT.nil BT.nil))) (BT.node (hd.o_88 v0) (BT.node (hd.o_120 v0) (BT.node (hd.o_184 v0) BT.nil BT.nil) (BT.node (hd.o_248 v0) BT.nil BT.nil)) (BT.node (hd.o_152 v0) (BT.node (hd.o_216 v0) BT.nil BT.nil) BT.nil))) (BT.node (hd.o_60 v0) (BT.node (hd.o_76 v0) (BT.node (hd.o_112 v0) (BT.node (hd.o_176 v0) BT.nil BT.nil) (BT.node (hd.o_240 v0) BT.nil BT.nil)) (BT.node (hd.o_144 v0) (BT.node (hd.o_208 v0) BT.nil BT.nil) (BT.node (hd.o_272 v0) BT.nil BT.nil))) (BT.node (hd.o_96 v0) (BT.node (hd.o_128 v0) (BT.node (hd.o_192 v0) BT.nil BT.nil) (BT.node (hd.o_256 v0) BT.nil BT.nil)) (BT.node (hd.o_160 v0) (BT.node (hd.o_224 v0) BT.nil BT.nil) BT.nil)))) (BT.node (hd.o_50 v0) (BT.node (hd.o_56 v0) (BT.node (hd.o_72 v0) (BT.node (hd.o_108 v0) (BT.node (hd.o_172 v0) BT.nil BT.nil) (BT.node (hd.o_236 v0) BT.nil BT.nil)) (BT.node (hd.o_140 v0) (BT.node (hd.o_204 v0) BT.nil BT.nil) (BT.node (hd.o_268 v0) BT.nil BT.nil))) (BT.node (hd.o_92 v0) (BT.node (hd.o_124 v0) (BT.node (hd.o_188 v0) BT.nil BT.nil) (BT.node (hd.o_252 v0) BT.nil BT.nil)) (BT.node (hd.o_156 v0) (BT.node (hd.o_220 v0) BT.nil BT.nil) BT.nil))) (BT.node (hd.o_64 v0) (BT.node (hd.o_80 v0) (BT.node (hd.o_116 v0) (BT.node (hd.o_180 v0) BT.nil BT.nil) (BT.node (hd.o_244 v0) BT.nil BT.nil)) (BT.node (hd.o_148 v0) (BT.node (hd.o_212 v0) BT.nil BT.nil) BT.nil)) (BT.node (hd.o_100 v0) (BT.node (hd.o_132 v0) (BT.node (hd.o_196 v0) BT.nil BT.nil) (BT.node (hd.o_260 v0) BT.nil BT.nil)) (BT.node (hd.o_164 v0) (BT.node (hd.o_228 v0) BT.nil BT.nil) BT.nil))))) (BT.node (boot_o_6 v0) (BT.node (boot_o_10 v0) (BT.node (hd.o_54 v0) (BT.node (hd.o_70 v0) (BT.node (hd.o_106 v0) (BT.node (hd.o_170 v0) BT.nil BT.nil) (BT.node (hd.o_234 v0) BT.nil BT.nil)) (BT.node (hd.o_138 v0) (BT.node (hd.o_202 v0) BT.nil BT.nil) (BT.node (hd.o_266 v0) BT.nil BT.nil))) (BT.node (hd.o_90 v0) (BT.node (hd.o_122 v0) (BT.node (hd.o_186 v0) BT.nil BT.nil) (BT.node (hd.o_250 v0) BT.nil BT.nil)) (BT.node (hd.o_154 v0) (BT.node (hd.o_218 v0) BT.nil BT.nil) BT.nil))) (BT.node (hd.o_62 v0) (BT.node (hd.o_78 v0) (BT.node (hd.o_114 v0) (BT.node (hd.o_178 v0) BT.nil BT.nil) (BT.node (hd.o_242 v0) BT.nil BT.nil)) (BT.node (hd.o_146 v0) (BT.node (hd.o_210 v0) BT.nil BT.nil) BT.nil)) (BT.node (hd.o_98 v0) (BT.node (hd.o_130 v0) (BT.node (hd.o_194 v0) BT.nil BT.nil) (BT.node (hd.o_258 v0) BT.nil BT.nil)) (BT.node (hd.o_162 v0) (BT.node (hd.o_226 v0) BT.nil BT.nil) BT.nil)))) (BT.node (hd.o_46 v0) (BT.node (hd.o_58 v0) (BT.node (hd.o_74 v0) (BT.node (hd.o_110 v0) (BT.node (hd.o_174 v0) BT.nil BT.nil) (BT.node (hd.o_238 v0) BT.nil BT.nil)) (BT.node (hd.o_142 v0) (BT.node (hd.o_206 v0) BT.nil BT.nil) (BT.node (hd.o_270 v0) BT.nil BT.nil))) (BT.node (hd.o_94 v0) (BT.node (hd.o_126 v0) (BT.node (hd.o_190 v0) BT.nil BT.nil) (BT.node (hd.o_254 v0) BT.nil BT.nil)) (BT.node (hd.o_158 v0) (BT.node (hd.o_222 v0) BT.nil BT.nil) BT.nil))) (BT.node (hd.o_66 v0) (BT.node (hd.o_86 v0) (BT.node (hd.o_118 v0) (BT.node (hd.o_182 v0) BT.nil BT.nil) (BT.node (hd.o_246 v0) BT.nil BT.nil)) (BT.node (hd.o_150 v0) (BT.node (hd.o_214 v0) BT.nil BT.nil) BT.nil)) (BT.node (hd.o_102 v0) (BT.node (hd.o_134 v0) (BT.node (hd.o_198 v0) BT.nil BT.nil) (BT.node (hd.o_262 v0) BT.nil BT.nil)) (BT.node (hd.o_166 v0) (BT.node (hd.o_230 v0) BT.nil BT.nil) BT.nil))))))))
noncomputable def hd.c0_98 : ((v0 : Params) → Obj) := (fun (v0 : Params) => (Obj.mk (Value.type "list_iterator") none (Data.fields #[(Value.ref 95), (Value.int (0 : Int) 0)]) #[]))
noncomputable def hd.ctree0 : ((v0 : Params) → BT) := (fun (v0 : Params) => (BT.node (boot_o_0 v0) (BT.node (boot_o_1 v0) (BT.node (hd.o_49 v0) (BT.node (boot_o_7 v0) (BT.node (hd.o_51 v0) (BT.node (hd.o_67 v0) (BT.node (hd.o_103 v0) BT.nil BT.nil) (BT.node (hd.o_135 v0) BT.nil BT.nil)) (BT.node (hd.o_87 v0) (BT.node (hd.o_119 v0) BT.nil BT.nil) BT.nil)) (BT.node (hd.o_59 v0) (BT.node (hd.o_75 v0) (BT.node (hd.o_111 v0) BT.nil BT.nil) BT.nil) (BT.node (hd.o_95 v0) (BT.node (hd.o_127 v0) BT.nil BT.nil) BT.nil))) (BT.node (hd.o_43 v0) (BT.node (hd.o_55 v0) (BT.node (hd.o_71 v0) (BT.node (hd.o_107 v0) BT.nil BT.nil) BT.nil) (BT.node (hd.o_91 v0) (BT.node (hd.o_123 v0) BT.nil BT.nil) BT.nil)) (BT.node (hd.o_63 v0) (BT.node (hd.o_79 v0) (BT.node (hd.o_115 v0) BT.nil BT.nil) BT.nil) (BT.node (hd.o_99 v0) (BT.node (hd.o_131 v0) BT.nil BT.nil) BT.nil)))) (BT.node (boot_o_5 v0) (BT.node (boot_o_9 v0) (BT.node (hd.o_53 v0) (BT.node (hd.o_69 v0) (BT.node (hd.o_105 v0) BT.nil BT.nil) (BT.node (hd.o_137 v0) BT.nil BT.nil)) (BT.node (hd.o_89 v0) (BT.node (hd.o_121 v0) BT.nil BT.nil) BT.nil)) (BT.node (hd.o_61 v0) (BT.node (hd.o_77 v0) (BT.node (hd.o_113 v0) BT.nil BT.nil) BT.nil) (BT.node (hd.o_97 v0) (BT.node (hd.o_129 v0) BT.nil BT.nil) BT.nil))) (BT.node (hd.o_45 v0) (BT.node (hd.o_57 v0) (BT.node (hd.o_73 v0) (BT.node (hd.o_109 v0) BT.nil BT.nil) BT.nil) (BT.node (hd.o_93 v0) (BT.node (hd.o_125 v0) BT.nil BT.nil) BT.nil)) (BT.node (hd.o_65 v0) (BT.node (hd.o_81 v0) (BT.node (hd.o_117 v0) BT.nil BT.nil) BT.nil) (BT.node (hd.o_101 v0) (BT.node (hd.o_133 v0) BT.nil BT.nil) BT.nil))))) (BT.node (boot_o_2 v0) (BT.node (boot_o_4 v0) (BT.node (boot_o_8 v0) (BT.node (hd.o_52 v0) (BT.node (hd.o_68 v0) (BT.node (hd.o_104 v0) BT.nil BT.nil) (BT.node (hd.o_136 v0) BT.nil BT.nil)) (BT.node (hd.o_88 v0) (BT.node (hd.o_120 v0) BT.nil BT.nil) BT.nil)) (BT.node (hd.o_60 v0) (BT.node (hd.o_76 v0) (BT.node (hd.o_112 v0) BT.nil BT.nil) BT.nil) (BT.node (hd.o_96 v0) (BT.node (hd.o_128 v0) BT.nil BT.nil) BT.nil))) (BT.node (hd.o_50 v0) (BT.node (hd.o_56 v0) (BT.node (hd.o_72 v0) (BT.node (hd.o_108 v0) BT.nil BT.nil) BT.nil) (BT.node (hd.o_92 v0) (BT.node (hd.o_124 v0) BT.nil BT.nil) BT.nil)) (BT.node (hd.o_64 v0) (BT.node (hd.o_80 v0) (BT.node (hd.o_116 v0) BT.nil BT.nil) BT.nil) (BT.node (hd.o_100 v0) (BT.node (hd.o_132 v0) BT.nil BT.nil) BT.nil)))) (BT.node (boot_o_6 v0) (BT.node (boot_o_10 v0) (BT.node (hd.o_54 v0) (BT.node (hd.o_70 v0) (BT.node (hd.o_106 v0) BT.nil BT.nil) (BT.node (hd.c0_98 v0) BT.nil BT.nil)) (BT.node (hd.o_90 v0) (BT.node (hd.o_122 v0) BT.nil BT.nil) BT.nil)) (BT.node (hd.o_62 v0) (BT.node (hd.o_78 v0) (BT.node (hd.o_114 v0) BT.nil BT.nil) BT.nil) (BT.node (hd.o_98 v0) (BT.node (hd.o_130 v0) BT.nil BT.nil) BT.nil))) (BT.node (hd.o_46 v0) (BT.node (hd.o_58 v0) (BT.node (hd.o_74 v0) (BT.node (hd.o_110 v0) BT.nil BT.nil) BT.nil) (BT.node (hd.o_94 v0) (BT.node (hd.o_126 v0) BT.nil BT.nil) BT.nil)) (BT.node (hd.o_66 v0) (BT.node (hd.o_86 v0) (BT.node (hd.o_118 v0) BT.nil BT.nil) BT.nil) (BT.node (hd.o_102 v0) (BT.node (hd.o_134 v0) BT.nil BT.nil) BT.nil)))))))
noncomputable def hd.c1_3 : ((v0 : Params) → Obj) := (fun (v0 : Params) => (Obj.mk (Value.type "dict") none (Data.dict #[(DictEntry.mk (PyData.keyHash v0 hd.s_0) (Value.str hd.s_0 165) (Value.str hd.s_86 194)), (DictEntry.mk (PyData.keyHash v0 hd.s_2) (Value.str hd.s_2 166) Value.none), (DictEntry.mk (PyData.keyHash v0 hd.s_3) (Value.str hd.s_3 167) Value.none), (DictEntry.mk (PyData.keyHash v0 hd.s_4) (Value.str hd.s_4 168) (Value.builtin "__main__.__loader__#opaque")), (DictEntry.mk (PyData.keyHash v0 hd.s_5) (Value.str hd.s_5 169) Value.none), (DictEntry.mk (PyData.keyHash v0 hd.s_6) (Value.str hd.s_6 170) (Value.ref 6)), (DictEntry.mk (PyData.keyHash v0 hd.s_7) (Value.str hd.s_7 171) (Value.ref 4)), (DictEntry.mk (PyData.keyHash v0 hd.s_8) (Value.str hd.s_8 173) (Value.str hd.s_9 172)), (DictEntry.mk (PyData.keyHash v0 hd.s_10) (Value.str hd.s_10 174) Value.none), (DictEntry.mk (PyData.keyHash v0 hd.s_11) (Value.str hd.s_11 193) (Value.ref 21)), (DictEntry.mk (PyData.keyHash v0 hd.s_12) (Value.str hd.s_12 205) (Value.ref 28)), (DictEntry.mk (PyData.keyHash v0 hd.s_13) (Value.str hd.s_13 215) (Value.ref 35)), (DictEntry.mk (PyData.keyHash v0 hd.s_14) (Value.str hd.s_14 224) (Value.ref 42)), (DictEntry.mk (PyData.keyHash v0 hd.s_15) (Value.str hd.s_15 357) (Value.ref 43)), (DictEntry.mk (PyData.keyHash v0 hd.s_73) (Value.str hd.s_73 358) (Value.str hd.s_173 448)), (DictEntry.mk (PyData.keyHash v0 hd.s_280) (Value.str hd.s_280 359) (Value.str hd.s_105 319))] 16) #[]))
noncomputable def hd.c1_43 : ((v0 : Params) → Obj) := (fun (v0 : Params) => (Obj.mk (Value.type "dict") none (Data.dict (List.toArray ((DictEntry.mk (PyData.keyHash v0 hd.s_101) (Value.str hd.s_101 225) (Value.str hd.s_97 226)) :: (DictEntry.mk (PyData.keyHash v0 hd.s_102) (Value.str hd.s_102 228) (Value.str hd.s_97 229)) :: (DictEntry.mk (PyData.keyHash v0 hd.s_103) (Value.str hd.s_103 231) (Value.str hd.s_93 232)) :: (DictEntry.mk (PyData.keyHash v0 hd.s_104) (Value.str hd.s_104 234) (Value.str hd.s_105 235)) :: (DictEntry.mk (PyData.keyHash v0 hd.s_106) (Value.str hd.s_106 237) (Value.str hd.s_105 238)) :: (DictEntry.mk (PyData.keyHash v0 hd.s_107) (Value.str hd.s_107 240) (Value.str hd.s_108 241)) :: (DictEntry.mk (PyData.keyHash v0 hd.s_109) (Value.str hd.s_109 243) (Value.str hd.s_110 244)) :: (DictEntry.mk (PyData.keyHash v0 hd.s_111) (Value.str hd.s_111 246) (Value.str hd.s_112 247)) :: (DictEntry.mk (PyData.keyHash v0 hd.s_113) (Value.str hd.s_113 249) (Value.str hd.s_114 250)) :: (DictEntry.mk (PyData.keyHash v0 hd.s_115) (Value.str hd.s_115 252) (Value.str hd.s_116 253)) :: (DictEntry.mk (PyData.keyHash v0 hd.s_117) (Value.str hd.s_117 255) (Value.str hd.s_93 256)) :: (DictEntry.mk (PyData.keyHash v0 hd.s_118) (Value.str hd.s_118 258) (Value.str hd.s_119 259)) :: (DictEntry.mk (PyData.keyHash v0 hd.s_120) (Value.str hd.s_120 261) (Value.str hd.s_121 262)) :: (DictEntry.mk (PyData.keyHash v0 hd.s_122) (Value.str hd.s_122 264) (Value.str hd.s_91 265)) :: (DictEntry.mk (PyData.keyHash v0 hd.s_123) (Value.str hd.s_123 267) (Value.str hd.s_93 268)) :: (DictEntry.mk (PyData.keyHash v0 hd.s_124) (Value.str hd.s_124 270) (Value.str hd.s_93 271)) :: (DictEntry.mk (PyData.keyHash v0 hd.s_125) (Value.str hd.s_125 273) (Value.str hd.s_93 274)) :: (DictEntry.mk (PyData.keyHash v0 hd.s_126) (Value.str hd.s_126 276) (Value.str hd.s_127 277)) :: (DictEntry.mk (PyData.keyHash v0 hd.s_128) (Value.str hd.s_128 279) (Value.str hd.s_129 280)) :: (DictEntry.mk (PyData.keyHash v0 hd.s_130) (Value.str hd.s_130 282) (Value.str hd.s_131 283)) :: (DictEntry.mk (PyData.keyHash v0 hd.s_132) (Value.str hd.s_132 285) (Value.str hd.s_133 286)) :: (DictEntry.mk (PyData.keyHash v0 hd.s_134) (Value.str hd.s_134 288) (Value.str hd.s_91 289)) :: (DictEntry.mk (PyData.keyHash v0 hd.s_135) (Value.str hd.s_135 291) (Value.str hd.s_136 292)) :: (DictEntry.mk (PyData.keyHash v0 hd.s_137) (Value.str hd.s_137 294) (Value.str hd.s_119 295)) :: (DictEntry.mk (PyData.keyHash v0 hd.s_138) (Value.str hd.s_138 297) (Value.str hd.s_139 298)) :: (DictEntry.mk (PyData.keyHash v0 hd.s_140) (Value.str hd.s_140 300) (Value.str hd.s_141 301)) :: (DictEntry.mk (PyData.keyHash v0 hd.s_142) (Value.str hd.s_142 303) (Value.str hd.s_121 304)) :: (DictEntry.mk (PyData.keyHash v0 hd.s_143) (Value.str hd.s_143 306) (Value.str hd.s_144 307)) :: (DictEntry.mk (PyData.keyHash v0 hd.s_145) (Value.str hd.s_145 309) (Value.str hd.s_146 310)) :: (DictEntry.mk (PyData.keyHash v0 hd.s_147) (Value.str hd.s_147 312) (Value.str hd.s_148 313)) :: (DictEntry.mk (PyData.keyHash v0 hd.s_149) (Value.str hd.s_149 315) (Value.str hd.s_150 316)) :: (DictEntry.mk (PyData.keyHash v0 hd.s_151) (Value.str hd.s_151 318) (Value.str hd.s_105 319)) :: (DictEntry.mk (PyData.keyHash v0 hd.s_152) (Value.str hd.s_152 321) (Value.str hd.s_153 322)) :: (DictEntry.mk (PyData.keyHash v0 hd.s_154) (Value.str hd.s_154 324) (Value.str hd.s_155 325)) :: (DictEntry.mk (PyData.keyHash v0 hd.s_156) (Value.str hd.s_156 327) (Value.str hd.s_108 328)) :: (DictEntry.mk (PyData.keyHash v0 hd.s_157) (Value.str hd.s_157 329) (Value.str hd.s_158 330)) :: (DictEntry.mk (PyData.keyHash v0 hd.s_159) (Value.str hd.s_159 331) (Value.str hd.s_92 332)) :: (DictEntry.mk (PyData.keyHash v0 hd.s_160) (Value.str hd.s_160 333) (Value.str hd.s_161 334)) :: (DictEntry.mk (PyData.keyHash v0 hd.s_162) (Value.str hd.s_162 335) (Value.str hd.s_163 336)) :: (DictEntry.mk (PyData.keyHash v0 hd.s_164) (Value.str hd.s_164 337) (Value.str hd.s_165 338)) :: (DictEntry.mk (PyData.keyHash v0 hd.s_166) (Value.str hd.s_166 339) (Value.str hd.s_167 340)) :: (DictEntry.mk (PyData.keyHash v0 hd.s_168) (Value.str hd.s_168 341) (Value.str hd.s_112 342)) :: (DictEntry.mk (PyData.keyHash v0 hd.s_169) (Value.str hd.s_169 343) (Value.str hd.s_114 344)) :: (DictEntry.mk (PyData.keyHash v0 hd.s_170) (Value.str hd.s_170 345) (Value.str hd.s_116 346)) :: (DictEntry.mk (PyData.keyHash v0 hd.s_171) (Value.str hd.s_171 434) (Value.str hd.s_108 328)) :: (DictEntry.mk (PyData.keyHash v0 hd.s_172) (Value.str hd.s_172 441) (Value.str hd.s_158 330)) :: (DictEntry.mk (PyData.keyHash v0 hd.s_173) (Value.str hd.s_173 448) (Value.str hd.s_105 319)) :: [])) 47) #[]))
noncomputable def hd.c1_98 : ((v0 : Params) → Obj) := (fun (v0 : Params) => (Obj.mk (Value.type "list_iterator") none (Data.fields #[(Value.ref 95), (Value.int (15 : Int) 0)]) #[]))
noncomputable def hd.ctree1 : ((v0 : Params) → BT) := (fun (v0 : Params) => (BT.node (boot_o_0 v0) (BT.node (boot_o_1 v0) (BT.node (hd.c1_3 v0) (BT.node (boot_o_7 v0) (BT.node (hd.o_51 v0) (BT.node (hd.o_67 v0) (BT.node (hd.o_103 v0) (BT.node (hd.o_167 v0) BT.nil BT.nil) BT.nil) (BT.node (hd.o_135 v0) BT.nil BT.nil)) (BT.node (hd.o_87 v0) (BT.node (hd.o_119 v0) (BT.node (hd.o_183 v0) BT.nil BT.nil) BT.nil) (BT.node (hd.o_151 v0) BT.nil BT.nil))) (BT.node (hd.o_59 v0) (BT.node (hd.o_75 v0) (BT.node (hd.o_111 v0) (BT.node (hd.o_175 v0) BT.nil BT.nil) BT.nil) (BT.node (hd.o_143 v0) BT.nil BT.nil)) (BT.node (hd.o_95 v0) (BT.node (hd.o_127 v0) BT.nil BT.nil) (BT.node (hd.o_159 v0) BT.nil BT.nil)))) (BT.node (hd.o_43 v0) (BT.node (hd.o_55 v0) (BT.node (hd.o_71 v0) (BT.node (hd.o_107 v0) (BT.node (hd.o_171 v0) BT.nil BT.nil) BT.nil) (BT.node (hd.o_139 v0) BT.nil BT.nil)) (BT.node (hd.o_91 v0) (BT.node (hd.o_123 v0) BT.nil BT.nil) (BT.node (hd.o_155 v0) BT.nil BT.nil))) (BT.node (hd.o_63 v0) (BT.node (hd.c1_43 v0) (BT.node (hd.o_115 v0) (BT.node (hd.o_179 v0) BT.nil BT.nil) BT.nil) (BT.node (hd.o_147 v0) BT.nil BT.nil)) (BT.node (hd.o_99 v0) (BT.node (hd.o_131 v0) BT.nil BT.nil) (BT.node (hd.o_163 v0) BT.nil BT.nil))))) (BT.node (boot_o_5 v0) (BT.node (boot_o_9 v0) (BT.node (hd.o_53 v0) (BT.node (hd.o_69 v0) (BT.node (hd.o_105 v0) (BT.node (hd.o_169 v0) BT.nil BT.nil) BT.nil) (BT.node (hd.o_137 v0) BT.nil BT.nil)) (BT.node (hd.o_89 v0) (BT.node (hd.o_121 v0) BT.nil BT.nil) (BT.node (hd.o_153 v0) BT.nil BT.nil))) (BT.node (hd.o_61 v0) (BT.node (hd.o_77 v0) (BT.node (hd.o_113 v0) (BT.node (hd.o_177 v0) BT.nil BT.nil) BT.nil) (BT.node (hd.o_145 v0) BT.nil BT.nil)) (BT.node (hd.o_97 v0) (BT.node (hd.o_129 v0) BT.nil BT.nil) (BT.node (hd.o_161 v0) BT.nil BT.nil)))) (BT.node (hd.o_45 v0) (BT.node (hd.o_57 v0) (BT.node (hd.o_73 v0) (BT.node (hd.o_109 v0) (BT.node (hd.o_173 v0) BT.nil BT.nil) BT.nil) (BT.node (hd.o_141 v0) BT.nil BT.nil)) (BT.node (hd.o_93 v0) (BT.node (hd.o_125 v0) BT.nil BT.nil) (BT.node (hd.o_157 v0) BT.nil BT.nil))) (BT.node (hd.o_65 v0) (BT.node (hd.o_81 v0) (BT.node (hd.o_117 v0) (BT.node (hd.o_181 v0) BT.nil BT.nil) BT.nil) (BT.node (hd.o_149 v0) BT.nil BT.nil)) (BT.node (hd.o_101 v0) (BT.node (hd.o_133 v0) BT.nil BT.nil) (BT.node (hd.o_165 v0) BT.nil BT.nil)))))) (BT.node (boot_o_2 v0) (BT.node (boot_o_4 v0) (BT.node (boot_o_8 v0) (BT.node (hd.o_52 v0) (BT.node (hd.o_68 v0) (BT.node (hd.o_104 v0) (BT.node (hd.o_168 v0) BT.nil BT.nil) BT.nil) (BT.node (hd.o_136 v0) BT.nil BT.nil)) (BT.node (hd.o_88 v0) (BT.node (hd.o_120 v0) BT.nil BT.nil) (BT.node (hd.o_152 v0) BT.nil BT.nil))) (BT.node (hd.o_60 v0) (BT.node (hd.o_76 v0) (BT.node (hd.o_112 v0) (BT.node (hd.o_176 v0) BT.nil BT.nil) BT.nil) (BT.node (hd.o_144 v0) BT.nil BT.nil)) (BT.node (hd.o_96 v0) (BT.node (hd.o_128 v0) BT.nil BT.nil) (BT.node (hd.o_160 v0) BT.nil BT.nil)))) (BT.node (hd.o_50 v0) (BT.node (hd.o_56 v0) (BT.node (hd.o_72 v0) (BT.node (hd.o_108 v0) (BT.node (hd.o_172 v0) BT.nil BT.nil) BT.nil) (BT.node (hd.o_140 v0) BT.nil BT.nil)) (BT.node (hd.o_92 v0) (BT.node (hd.o_124 v0) BT.nil BT.nil) (BT.node (hd.o_156 v0) BT.nil BT.nil))) (BT.node (hd.o_64 v0) (BT.node (hd.o_80 v0) (BT.node (hd.o_116 v0) (BT.node (hd.o_180 v0) BT.nil BT.nil) BT.nil) (BT.node (hd.o_148 v0) BT.nil BT.nil)) (BT.node (hd.o_100 v0) (BT.node (hd.o_132 v0) BT.nil BT.nil) (BT.node (hd.o_164 v0) BT.nil BT.nil))))) (BT.node (boot_o_6 v0) (BT.node (boot_o_10 v0) (BT.node (hd.o_54 v0) (BT.node (hd.o_70 v0) (BT.node (hd.o_106 v0) (BT.node (hd.o_170 v0) BT.nil BT.nil) BT.nil) (BT.node (hd.c1_98 v0) BT.nil BT.nil)) (BT.node (hd.o_90 v0) (BT.node (hd.o_122 v0) BT.nil BT.nil) (BT.node (hd.o_154 v0) BT.nil BT.nil))) (BT.node (hd.o_62 v0) (BT.node (hd.o_78 v0) (BT.node (hd.o_114 v0) (BT.node (hd.o_178 v0) BT.nil BT.nil) BT.nil) (BT.node (hd.o_146 v0) BT.nil BT.nil)) (BT.node (hd.o_98 v0) (BT.node (hd.o_130 v0) BT.nil BT.nil) (BT.node (hd.o_162 v0) BT.nil BT.nil)))) (BT.node (hd.o_46 v0) (BT.node (hd.o_58 v0) (BT.node (hd.o_74 v0) (BT.node (hd.o_110 v0) (BT.node (hd.o_174 v0) BT.nil BT.nil) BT.nil) (BT.node (hd.o_142 v0) BT.nil BT.nil)) (BT.node (hd.o_94 v0) (BT.node (hd.o_126 v0) BT.nil BT.nil) (BT.node (hd.o_158 v0) BT.nil BT.nil))) (BT.node (hd.o_66 v0) (BT.node (hd.o_86 v0) (BT.node (hd.o_118 v0) (BT.node (hd.o_182 v0) BT.nil BT.nil) BT.nil) (BT.node (hd.o_150 v0) BT.nil BT.nil)) (BT.node (hd.o_102 v0) (BT.node (hd.o_134 v0) BT.nil BT.nil) (BT.node (hd.o_166 v0) BT.nil BT.nil))))))))
noncomputable def hd.c2_3 : ((v0 : Params) → Obj) := (fun (v0 : Params) => (Obj.mk (Value.type "dict") none (Data.dict #[(DictEntry.mk (PyData.keyHash v0 hd.s_0) (Value.str hd.s_0 165) (Value.str hd.s_86 194)), (DictEntry.mk (PyData.keyHash v0 hd.s_2) (Value.str hd.s_2 166) Value.none), (DictEntry.mk (PyData.keyHash v0 hd.s_3) (Value.str hd.s_3 167) Value.none), (DictEntry.mk (PyData.keyHash v0 hd.s_4) (Value.str hd.s_4 168) (Value.builtin "__main__.__loader__#opaque")), (DictEntry.mk (PyData.keyHash v0 hd.s_5) (Value.str hd.s_5 169) Value.none), (DictEntry.mk (PyData.keyHash v0 hd.s_6) (Value.str hd.s_6 170) (Value.ref 6)), (DictEntry.mk (PyData.keyHash v0 hd.s_7) (Value.str hd.s_7 171) (Value.ref 4)), (DictEntry.mk (PyData.keyHash v0 hd.s_8) (Value.str hd.s_8 173) (Value.str hd.s_9 172)), (DictEntry.mk (PyData.keyHash v0 hd.s_10) (Value.str hd.s_10 174) Value.none), (DictEntry.mk (PyData.keyHash v0 hd.s_11) (Value.str hd.s_11 193) (Value.ref 21)), (DictEntry.mk (PyData.keyHash v0 hd.s_12) (Value.str hd.s_12 205) (Value.ref 28)), (DictEntry.mk (PyData.keyHash v0 hd.s_13) (Value.str hd.s_13 215) (Value.ref 35)), (DictEntry.mk (PyData.keyHash v0 hd.s_14) (Value.str hd.s_14 224) (Value.ref 42)), (DictEntry.mk (PyData.keyHash v0 hd.s_15) (Value.str hd.s_15 357) (Value.ref 43)), (DictEntry.mk (PyData.keyHash v0 hd.s_73) (Value.str hd.s_73 358) (Value.str hd.s_188 553)), (DictEntry.mk (PyData.keyHash v0 hd.s_280) (Value.str hd.s_280 359) (Value.str hd.s_150 316))] 16) #[]))
noncomputable def hd.c2_43 : ((v0 : Params) → Obj) := (fun (v0 : Params) => (Obj.mk (Value.type "dict") none (Data.dict (List.toArray ((DictEntry.mk (PyData.keyHash v0 hd.s_101) (Value.str hd.s_101 225) (Value.str hd.s_97 226)) :: (DictEntry.mk (PyData.keyHash v0 hd.s_102) (Value.str hd.s_102 228) (Value.str hd.s_97 229)) :: (DictEntry.mk (PyData.keyHash v0 hd.s_103) (Value.str hd.s_103 231) (Value.str hd.s_93 232)) :: (DictEntry.mk (PyData.keyHash v0 hd.s_104) (Value.str hd.s_104 234) (Value.str hd.s_105 235)) :: (DictEntry.mk (PyData.keyHash v0 hd.s_106) (Value.str hd.s_106 237) (Value.str hd.s_105 238)) :: (DictEntry.mk (PyData.keyHash v0 hd.s_107) (Value.str hd.s_107 240) (Value.str hd.s_108 241)) :: (DictEntry.mk (PyData.keyHash v0 hd.s_109) (Value.str hd.s_109 243) (Value.str hd.s_110 244)) :: (DictEntry.mk (PyData.keyHash v0 hd.s_111) (Value.str hd.s_111 246) (Value.str hd.s_112 247)) :: (DictEntry.mk (PyData.keyHash v0 hd.s_113) (Value.str hd.s_113 249) (Value.str hd.s_114 250)) :: (DictEntry.mk (PyData.keyHash v0 hd.s_115) (Value.str hd.s_115 252) (Value.str hd.s_116 253)) :: (DictEntry.mk (PyData.keyHash v0 hd.s_117) (Value.str hd.s_117 255) (Value.str hd.s_93 256)) :: (DictEntry.mk (PyData.keyHash v0 hd.s_118) (Value.str hd.s_118 258) (Value.str hd.s_119 259)) :: (DictEntry.mk (PyData.keyHash v0 hd.s_120) (Value.str hd.s_120 261) (Value.str hd.s_121 262)) :: (DictEntry.mk (PyData.keyHash v0 hd.s_122) (Value.str hd.s_122 264) (Value.str hd.s_91 265)) :: (DictEntry.mk (PyData.keyHash v0 hd.s_123) (Value.str hd.s_123 267) (Value.str hd.s_93 268)) :: (DictEntry.mk (PyData.keyHash v0 hd.s_124) (Value.str hd.s_124 270) (Value.str hd.s_93 271)) :: (DictEntry.mk (PyData.keyHash v0 hd.s_125) (Value.str hd.s_125 273) (Value.str hd.s_93 274)) :: (DictEntry.mk (PyData.keyHash v0 hd.s_126) (Value.str hd.s_126 276) (Value.str hd.s_127 277)) :: (DictEntry.mk (PyData.keyHash v0 hd.s_128) (Value.str hd.s_128 279) (Value.str hd.s_129 280)) :: (DictEntry.mk (PyData.keyHash v0 hd.s_130) (Value.str hd.s_130 282) (Value.str hd.s_131 283)) :: (DictEntry.mk (PyData.keyHash v0 hd.s_132) (Value.str hd.s_132 285) (Value.str hd.s_133 286)) :: (DictEntry.mk (PyData.keyHash v0 hd.s_134) (Value.str hd.s_134 288) (Value.str hd.s_91 289)) :: (DictEntry.mk (PyData.keyHash v0 hd.s_135) (Value.str hd.s_135 291) (Value.str hd.s_136 292)) :: (DictEntry.mk (PyData.keyHash v0 hd.s_137) (Value.str hd.s_137 294) (Value.str hd.s_119 295)) :: (DictEntry.mk (PyData.keyHash v0 hd.s_138) (Value.str hd.s_138 297) (Value.str hd.s_139 298)) :: (DictEntry.mk (PyData.keyHash v0 hd.s_140) (Value.str hd.s_140 300) (Value.str hd.s_141 301)) :: (DictEntry.mk (PyData.keyHash v0 hd.s_142) (Value.str hd.s_142 303) (Value.str hd.s_121 304)) :: (DictEntry.mk (PyData.keyHash v0 hd.s_143) (Value.str hd.s_143 306) (Value.str hd.s_144 307)) :: (DictEntry.mk (PyData.keyHash v0 hd.s_145) (Value.str hd.s_145 309) (Value.str hd.s_146 310)) :: (DictEntry.mk (PyData.keyHash v0 hd.s_147) (Value.str hd.s_147 312) (Value.str hd.s_148 313)) :: (DictEntry.mk (PyData.keyHash v0 hd.s_149) (Value.str hd.s_149 315) (Value.str hd.s_150 316)) :: (DictEntry.mk (PyData.keyHash v0 hd.s_151) (Value.str hd.s_151 318) (Value.str hd.s_105 319)) :: (DictEntry.mk (PyData.keyHash v0 hd.s_152) (Value.str hd.s_152 321) (Value.str hd.s_153 322)) :: (DictEntry.mk (PyData.keyHash v0 hd.s_154) (Value.str hd.s_154 324) (Value.str hd.s_155 325)) :: (DictEntry.mk (PyData.keyHash v0 hd.s_156) (Value.str hd.s_156 327) (Value.str hd.s_108 328)) :: (DictEntry.mk (PyData.keyHash v0 hd.s_157) (Value.str hd.s_157 329) (Value.str hd.s_158 330)) :: (DictEntry.mk (PyData.keyHash v0 hd.s_159) (Value.str hd.s_159 331) (Value.str hd.s_92 332)) :: (DictEntry.mk (PyData.keyHash v0 hd.s_160) (Value.str hd.s_160 333) (Value.str hd.s_161 334)) :: (DictEntry.mk (PyData.keyHash v0 hd.s_162) (Value.str hd.s_162 335) (Value.str hd.s_163 336)) :: (DictEntry.mk (PyData.keyHash v0 hd.s_164) (Value.str hd.s_164 337) (Value.str hd.s_165 338)) :: (DictEntry.mk (PyData.keyHash v0 hd.s_166) (Value.str hd.s_166 339) (Value.str hd.s_167 340)) :: (DictEntry.mk (PyData.keyHash v0 hd.s_168) (Value.str hd.s_168 341) (Value.str hd.s_112 342)) :: (DictEntry.mk (PyData.keyHash v0 hd.s_169) (Value.str hd.s_169 343) (Value.str hd.s_114 344)) :: (DictEntry.mk (PyData.keyHash v0 hd.s_170) (Value.str hd.s_170 345) (Value.str hd.s_116 346)) :: (DictEntry.mk (PyData.keyHash v0 hd.s_171) (Value.str hd.s_171 434) (Value.str hd.s_108 328)) :: (DictEntry.mk (PyData.keyHash v0 hd.s_172) (Value.str hd.s_172 441) (Value.str hd.s_158 330)) :: (DictEntry.mk (PyData.keyHash v0 hd.s_173) (Value.str hd.s_173 448) (Value.str hd.s_105 319)) :: (DictEntry.mk (PyData.keyHash v0 hd.s_174) (Value.str hd.s_174 455) (Value.str hd.s_93 274)) :: (DictEntry.mk (PyData.keyHash v0 hd.s_175) (Value.str hd.s_175 462) (Value.str hd.s_127 277)) :: (DictEntry.mk (PyData.keyHash v0 hd.s_176) (Value.str hd.s_176 469) (Value.str hd.s_129 280)) :: (DictEntry.mk (PyData.keyHash v0 hd.s_177) (Value.str hd.s_177 476) (Value.str hd.s_131 283)) :: (DictEntry.mk (PyData.keyHash v0 hd.s_178) (Value.str hd.s_178 483) (Value.str hd.s_133 286)) :: (DictEntry.mk (PyData.keyHash v0 hd.s_179) (Value.str hd.s_179 490) (Value.str hd.s_91 289)) :: (DictEntry.mk (PyData.keyHash v0 hd.s_180) (Value.str hd.s_180 497) (Value.str hd.s_136 292)) :: (DictEntry.mk (PyData.keyHash v0 hd.s_181) (Value.str hd.s_181 504) (Value.str hd.s_119 295)) :: (DictEntry.mk (PyData.keyHash v0 hd.s_182) (Value.str hd.s_182 511) (Value.str hd.s_139 298)) :: (DictEntry.mk (PyData.keyHash v0 hd.s_183) (Value.str hd.s_183 518) (Value.str hd.s_141 301)) :: (DictEntry.mk (PyData.keyHash v0 hd.s_184) (Value.str hd.s_184 525) (Value.str hd.s_121 304)) :: (DictEntry.mk (PyData.keyHash v0 hd.s_185) (Value.str hd.s_185 532) (Value.str hd.s_144 307)) :: (DictEntry.mk (PyData.keyHash v0 hd.s_186) (Value.str hd.s_186 539) (Value.str hd.s_146 310)) :: (DictEntry.mk (PyData.keyHash v0 hd.s_187) (Value.str hd.s_187 546) (Value.str hd.s_148 313)) :: (DictEntry.mk (PyData.keyHash v0 hd.s_188) (Value.str hd.s_188 553) (Value.str hd.s_150 316)) :: [])) 62) #[]))
noncomputable def hd.c2_98 : ((v0 : Params) → Obj) := (fun (v0 : Params) => (Obj.mk (Value.type "list_iterator") none (Data.fields #[(Value.ref 95), (Value.int (30 : Int) 0)]) #[]))
noncomputable def hd.ctree2 : ((v0 : Params) → BT) := (fun (v0 : Params) => (BT.node (boot_o_0 v0) (BT.node (boot_o_1 v0) (BT.node (hd.c2_3 v0) (BT.node (boot_o_7 v0) (BT.node (hd.o_51 v0) (BT.node (hd.o_67 v0) (BT.node (hd.o_103 v0) (BT.node (hd.o_167 v0) BT.nil BT.nil) BT.nil) (BT.node (hd.o_135 v0) (BT.node (hd.o_199 v0) BT.nil BT.nil) BT.nil)) (BT.node (hd.o_87 v0) (BT.node (hd.o_119 v0) (BT.node (hd.o_183 v0) BT.nil BT.nil) BT.nil) (BT.node (hd.o_151 v0) (BT.node (hd.o_215 v0) BT.nil BT.nil) BT.nil))) (BT.node (hd.o_59 v0) (BT.node (hd.o_75 v0) (BT.node (hd.o_111 v0) (BT.node (hd.o_175 v0) BT.nil BT.nil) BT.nil) (BT.node (hd.o_143 v0) (BT.node (hd.o_207 v0) BT.nil BT.nil) BT.nil)) (BT.node (hd.o_95 v0) (BT.node (hd.o_127 v0) (BT.node (hd.o_191 v0) BT.nil BT.nil) BT.nil) (BT.node (hd.o_159 v0) (BT.node (hd.o_223 v0) BT.nil BT.nil) BT.nil)))) (BT.node (hd.o_43 v0) (BT.node (hd.o_55 v0) (BT.node (hd.o_71 v0) (BT.node (hd.o_107 v0) (BT.node (hd.o_171 v0) BT.nil BT.nil) BT.nil) (BT.node (hd.o_139 v0) (BT.node (hd.o_203 v0) BT.nil BT.nil) BT.nil)) (BT.node (hd.o_91 v0) (BT.node (hd.o_123 v0) (BT.node (hd.o_187 v0) BT.nil BT.nil) BT.nil) (BT.node (hd.o_155 v0) (BT.node (hd.o_219 v0) BT.nil BT.nil) BT.nil))) (BT.node (hd.o_63 v0) (BT.node (hd.c2_43 v0) (BT.node (hd.o_115 v0) (BT.node (hd.o_179 v0) BT.nil BT.nil) BT.nil) (BT.node (hd.o_147 v0) (BT.node (hd.o_211 v0) BT.nil BT.nil) BT.nil)) (BT.node (hd.o_99 v0) (BT.node (hd.o_131 v0) (BT.node (hd.o_195 v0) BT.nil BT.nil) BT.nil) (BT.node (hd.o_163 v0) (BT.node (hd.o_227 v0) BT.nil BT.nil) BT.nil))))) (BT.node (boot_o_5 v0) (BT.node (boot_o_9 v0) (BT.node (hd.o_53 v0) (BT.node (hd.o_69 v0) (BT.node (hd.o_105 v0) (BT.node (hd.o_169 v0) BT.nil BT.nil) BT.nil) (BT.node (hd.o_137 v0) (BT.node (hd.o_201 v0) BT.nil BT.nil) BT.nil)) (BT.node (hd.o_89 v0) (BT.node (hd.o_121 v0) (BT.node (hd.o_185 v0) BT.nil BT.nil) BT.nil) (BT.node (hd.o_153 v0) (BT.node (hd.o_217 v0) BT.nil BT.nil) BT.nil))) (BT.node (hd.o_61 v0) (BT.node (hd.o_77 v0) (BT.node (hd.o_113 v0) (BT.node (hd.o_177 v0) BT.nil BT.nil) BT.nil) (BT.node (hd.o_145 v0) (BT.node (hd.o_209 v0) BT.nil BT.nil) BT.nil)) (BT.node (hd.o_97 v0) (BT.node (hd.o_129 v0) (BT.node (hd.o_193 v0) BT.nil BT.nil) BT.nil) (BT.node (hd.o_161 v0) (BT.node (hd.o_225 v0) BT.nil BT.nil) BT.nil)))) (BT.node (hd.o_45 v0) (BT.node (hd.o_57 v0) (BT.node (hd.o_73 v0) (BT.node (hd.o_109 v0) (BT.node (hd.o_173 v0) BT.nil BT.nil) BT.nil) (BT.node (hd.o_141 v0) (BT.node (hd.o_205 v0) BT.nil BT.nil) BT.nil)) (BT.node (hd.o_93 v0) (BT.node (hd.o_125 v0) (BT.node (hd.o_189 v0) BT.nil BT.nil) BT.nil) (BT.node (hd.o_157 v0) (BT.node (hd.o_221 v0) BT.nil BT.nil) BT.nil))) (BT.node (hd.o_65 v0) (BT.node (hd.o_81 v0) (BT.node (hd.o_117 v0) (BT.node (hd.o_181 v0) BT.nil BT.nil) BT.nil) (BT.node (hd.o_149 v0) (BT.node (hd.o_213 v0) BT.nil BT.nil) BT.nil)) (BT.node (hd.o_101 v0) (BT.node (hd.o_133 v0) (BT.node (hd.o_197 v0) BT.nil BT.nil) BT.nil) (BT.node (hd.o_165 v0) BT.nil BT.nil)))))) (BT.node (boot_o_2 v0) (BT.node (boot_o_4 v0) (BT.node (boot_o_8 v0) (BT.node (hd.o_52 v0) (BT.node (hd.o_68 v0) (BT.node (hd.o_104 v0) (BT.node (hd.o_168 v0) BT.nil BT.nil) BT.nil) (BT.node (hd.o_136 v0) (BT.node (hd.o_200 v0) BT.nil BT.nil) BT.nil)) (BT.node (hd.o_88 v0) (BT.node (hd.o_120 v0) (BT.node (hd.o_184 v0) BT.nil BT.nil) BT.nil) (BT.node (hd.o_152 v0) (BT.node (hd.o_216 v0) BT.nil BT.nil) BT.nil))) (BT.node (hd.o_60 v0) (BT.node (hd.o_76 v0) (BT.node (hd.o_112 v0) (BT.node (hd.o_176 v0) BT.nil BT.nil) BT.nil) (BT.node (hd.o_144 v0) (BT.node (hd.o_208 v0) BT.nil BT.nil) BT.nil)) (BT.node (hd.o_96 v0) (BT.node (hd.o_128 v0) (BT.node (hd.o_192 v0) BT.nil BT.nil) BT.nil) (BT.node (hd.o_160 v0) (BT.node (hd.o_224 v0) BT.nil BT.nil) BT.nil)))) (BT.node (hd.o_50 v0) (BT.node (hd.o_56 v0) (BT.node (hd.o_72 v0) (BT.node (hd.o_108 v0) (BT.node (hd.o_172 v0) BT.nil BT.nil) BT.nil) (BT.node (hd.o_140 v0) (BT.node (hd.o_204 v0) BT.nil BT.nil) BT.nil)) (BT.node (hd.o_92 v0) (BT.node (hd.o_124 v0) (BT.node (hd.o_188 v0) BT.nil BT.nil) BT.nil) (BT.node (hd.o_156 v0) (BT.node (hd.o_220 v0) BT.nil BT.nil) BT.nil))) (BT.node (hd.o_64 v0) (BT.node (hd.o_80 v0) (BT.node (hd.o_116 v0) (BT.node (hd.o_180 v0) BT.nil BT.nil) BT.nil) (BT.node (hd.o_148 v0) (BT.node (hd.o_212 v0) BT.nil BT.nil) BT.nil)) (BT.node (hd.o_100 v0) (BT.node (hd.o_132 v0) (BT.node (hd.o_196 v0) BT.nil BT.nil) BT.nil) (BT.node (hd.o_164 v0) (BT.node (hd.o_228 v0) BT.nil BT.nil) BT.nil))))) (BT.node (boot_o_6 v0) (BT.node (boot_o_10 v0) (BT.node (hd.o_54 v0) (BT.node (hd.o_70 v0) (BT.node (hd.o_106 v0) (BT.node (hd.o_170 v0) BT.nil BT.nil) BT.nil) (BT.node (hd.c2_98 v0) (BT.node (hd.o_202 v0) BT.nil BT.nil) BT.nil)) (BT.node (hd.o_90 v0) (BT.node (hd.o_122 v0) (BT.node (hd.o_186 v0) BT.nil BT.nil) BT.nil) (BT.node (hd.o_154 v0) (BT.node (hd.o_218 v0) BT.nil BT.nil) BT.nil))) (BT.node (hd.o_62 v0) (BT.node (hd.o_78 v0) (BT.node (hd.o_114 v0) (BT.node (hd.o_178 v0) BT.nil BT.nil) BT.nil) (BT.node (hd.o_146 v0) (BT.node (hd.o_210 v0) BT.nil BT.nil) BT.nil)) (BT.node (hd.o_98 v0) (BT.node (hd.o_130 v0) (BT.node (hd.o_194 v0) BT.nil BT.nil) BT.nil) (BT.node (hd.o_162 v0) (BT.node (hd.o_226 v0) BT.nil BT.nil) BT.nil)))) (BT.node (hd.o_46 v0) (BT.node (hd.o_58 v0) (BT.node (hd.o_74 v0) (BT.node (hd.o_110 v0) (BT.node (hd.o_174 v0) BT.nil BT.nil) BT.nil) (BT.node (hd.o_142 v0) (BT.node (hd.o_206 v0) BT.nil BT.nil) BT.nil)) (BT.node (hd.o_94 v0) (BT.node (hd.o_126 v0) (BT.node (hd.o_190 v0) BT.nil BT.nil) BT.nil) (BT.node (hd.o_158 v0) (BT.node (hd.o_222 v0) BT.nil BT.nil) BT.nil))) (BT.node (hd.o_66 v0) (BT.node (hd.o_86 v0) (BT.node (hd.o_118 v0) (BT.node (hd.o_182 v0) BT.nil BT.nil) BT.nil) (BT.node (hd.o_150 v0) (BT.node (hd.o_214 v0) BT.nil BT.nil) BT.nil)) (BT.node (hd.o_102 v0) (BT.node (hd.o_134 v0) (BT.node (hd.o_198 v0) BT.nil BT.nil) BT.nil) (BT.node (hd.o_166 v0) BT.nil BT.nil))))))))
noncomputable def hd.forc : Code := match hd.sts_84 with
  | [.For t _ b o _] => Code.forLoop t (Value.ref (nat_lit 98)) b o hd.env_41
  | _ => Code.body [] hd.env_41
noncomputable def hd.fork : Result → Sem Fin := match Sem.wrap doneF deadEnd id id (runOwn hd.forc hd.env_41 >>= fun f => match f with | .next => execs [] hd.env_41 | f => Sem.pure f) with
  | .call _ _ _ _ k => k
  | _ => fun _ => .unsupported ""
theorem hd.go2 {tb : String → Option Builtin} {p : Program} {w : World} {n₀ : Nat} {ann : Option Value} {b M : Nat} : ∀ {n N : Nat} {s s' : SharedT} {t t' : Thread} {r : Flow × SharedT × Code × Pos}, n + N = M → segGoT tb p w n₀ ann b n s t = some (s', t') →
    segRunT tb p w n₀ ann b N s' t' = some r → segRunT tb p w n₀ ann b M s t = some r
  | 0, N, s, s', t, t', r, e, h, k => by
    obtain ⟨rfl, rfl⟩ : s = s' ∧ t = t' := by simpa [segGoT] using h
    rw [Nat.zero_add] at e; subst e; exact k
  | n + 1, N, s, s', t, t', r, e, h, k => by
    rw [show n + 1 + N = n + N + 1 by omega] at e
    subst e
    unfold segGoT at h
    unfold segRunT
    cases he : endAt b t with
    | some f => rw [he] at h; cases h
    | none =>
      rw [he] at h
      cases hk : stepOk n₀ ann t with
      | false => rw [hk] at h; cases h
      | true =>
        rw [hk] at h
        cases hs : stepT (denote tb) p w s t with
        | none => rw [hs] at h; cases h
        | some q => obtain ⟨s₂, t₂⟩ := q; rw [hs] at h; exact hd.go2 rfl h k
noncomputable def hd.thr (p : Pos) : Thread := Thread.mk (PySem.W.Fast.tw11892475500146522536 PySem.W.Fast.tw14364793385576792824 hd.forc) hd.forc p [Frame.ret hd.fork none Bool.false [] (Code.body (behindTheImports ((OpenRow.toRowW (OpenLaw.row Challenge.rw_il0204_01))).1) hd.env_41) ⟨44, 12, 44, 49⟩ [], topFrame ⟨0, 0, 0, 0⟩]
theorem hd.l273_0 : (v0 : World) → (fun (v1 : OsState) => (segGoT treeTable ((OpenRow.toRowW (OpenLaw.row Challenge.rw_il0204_01))).1 (World.withFollow v0 "special-get-raises" Bool.false) (nat_lit 11) (some (Value.ref 6)) (nat_lit 1) (nat_lit 3041) (SharedT.mk (hd.tree_81 (World.params (World.withFollow v0 "special-get-raises" Bool.false))) (nat_lit 46) (Life.mk [] [] [] 0 [] [] Bool.false #[] [] 0 Bool.false Bool.false Bool.false (0 : Int) [(2000 : Int), (10 : Int), (10 : Int)] Bool.false 0 Bool.true [] [] 0 Bool.false) (@Array.mk.{0} GenState []) (Drawn.mk 0 0 0 0) (nat_lit 358) v1) (piecesOf hd.sts_84 hd.env_41 (Code.body (behindTheImports ((OpenRow.toRowW (OpenLaw.row Challenge.rw_il0204_01))).1) hd.env_41) ⟨43, 0, 43, 21⟩ [(topFrame ⟨0, 0, 0, 0⟩)]))) = (fun (v1 : OsState) => some ((SharedT.mk (hd.ctree0 (World.params (World.withFollow v0 "special-get-raises" Bool.false))) (nat_lit 99) (Life.mk [] [] [] 0 [] [] Bool.false #[] [] 0 Bool.false Bool.false Bool.false (0 : Int) [(2000 : Int), (10 : Int), (10 : Int)] Bool.false 0 Bool.true [] [] 0 Bool.false) (@Array.mk.{0} GenState []) (Drawn.mk 0 0 0 0) (nat_lit 358) v1), (hd.thr ⟨44, 12, 44, 49⟩))) := by
  intro v0
  rewrite [PySem.W.Fast.te10295753902157049106, PySem.W.Fast.te14364793385576792824, PySem.W.Fast.te2368527892694137696]
  kernel_rfl
theorem hd.l273_1 : (v0 : World) → (fun (v1 : OsState) => (segGoT treeTable ((OpenRow.toRowW (OpenLaw.row Challenge.rw_il0204_01))).1 (World.withFollow v0 "special-get-raises" Bool.false) (nat_lit 11) (some (Value.ref 6)) (nat_lit 1) (nat_lit 1899) (SharedT.mk (hd.ctree0 (World.params (World.withFollow v0 "special-get-raises" Bool.false))) (nat_lit 99) (Life.mk [] [] [] 0 [] [] Bool.false #[] [] 0 Bool.false Bool.false Bool.false (0 : Int) [(2000 : Int), (10 : Int), (10 : Int)] Bool.false 0 Bool.true [] [] 0 Bool.false) (@Array.mk.{0} GenState []) (Drawn.mk 0 0 0 0) (nat_lit 358) v1) (hd.thr ⟨44, 12, 44, 49⟩))) = (fun (v1 : OsState) => some ((SharedT.mk (hd.ctree1 (World.params (World.withFollow v0 "special-get-raises" Bool.false))) (nat_lit 144) (Life.mk [] [] [] 0 [] [] Bool.false #[] [] 0 Bool.false Bool.false Bool.false (0 : Int) [(2000 : Int), (10 : Int), (10 : Int)] Bool.false 0 Bool.true [] [] 0 Bool.false) (@Array.mk.{0} GenState []) (Drawn.mk 0 0 0 0) (nat_lit 451) v1), (hd.thr ⟨46, 4, 46, 42⟩))) := by
  intro v0
  rewrite [PySem.W.Fast.te10295753902157049106, PySem.W.Fast.te14364793385576792824, PySem.W.Fast.te2368527892694137696]
  kernel_rfl
theorem hd.l273_2 : (v0 : World) → (fun (v1 : OsState) => (segGoT treeTable ((OpenRow.toRowW (OpenLaw.row Challenge.rw_il0204_01))).1 (World.withFollow v0 "special-get-raises" Bool.false) (nat_lit 11) (some (Value.ref 6)) (nat_lit 1) (nat_lit 1875) (SharedT.mk (hd.ctree1 (World.params (World.withFollow v0 "special-get-raises" Bool.false))) (nat_lit 144) (Life.mk [] [] [] 0 [] [] Bool.false #[] [] 0 Bool.false Bool.false Bool.false (0 : Int) [(2000 : Int), (10 : Int), (10 : Int)] Bool.false 0 Bool.true [] [] 0 Bool.false) (@Array.mk.{0} GenState []) (Drawn.mk 0 0 0 0) (nat_lit 451) v1) (hd.thr ⟨46, 4, 46, 42⟩))) = (fun (v1 : OsState) => some ((SharedT.mk (hd.ctree2 (World.params (World.withFollow v0 "special-get-raises" Bool.false))) (nat_lit 189) (Life.mk [] [] [] 0 [] [] Bool.false #[] [] 0 Bool.false Bool.false Bool.false (0 : Int) [(2000 : Int), (10 : Int), (10 : Int)] Bool.false 0 Bool.true [] [] 0 Bool.false) (@Array.mk.{0} GenState []) (Drawn.mk 0 0 0 0) (nat_lit 556) v1), (hd.thr ⟨46, 4, 46, 42⟩))) := by
  intro v0
  rewrite [PySem.W.Fast.te10295753902157049106, PySem.W.Fast.te14364793385576792824, PySem.W.Fast.te2368527892694137696]
  kernel_rfl
theorem hd.l273_3 : (v0 : World) → (fun (v1 : OsState) => (segRunT treeTable ((OpenRow.toRowW (OpenLaw.row Challenge.rw_il0204_01))).1 (World.withFollow v0 "special-get-raises" Bool.false) (nat_lit 11) (some (Value.ref 6)) (nat_lit 1) (nat_lit 1785) (SharedT.mk (hd.ctree2 (World.params (World.withFollow v0 "special-get-raises" Bool.false))) (nat_lit 189) (Life.mk [] [] [] 0 [] [] Bool.false #[] [] 0 Bool.false Bool.false Bool.false (0 : Int) [(2000 : Int), (10 : Int), (10 : Int)] Bool.false 0 Bool.true [] [] 0 Bool.false) (@Array.mk.{0} GenState []) (Drawn.mk 0 0 0 0) (nat_lit 556) v1) (hd.thr ⟨46, 4, 46, 42⟩))) = (fun (v1 : OsState) => (some (Flow.next, ((SharedT.mk (hd.tree_272 (World.params (World.withFollow v0 "special-get-raises" Bool.false))) (nat_lit 233) (Life.mk [] [] [] 0 [] [] Bool.false #[] [] 0 Bool.false Bool.false Bool.false (0 : Int) [(2000 : Int), (10 : Int), (10 : Int)] Bool.false 0 Bool.true [] [] 0 Bool.false) (@Array.mk.{0} GenState []) (Drawn.mk 0 0 0 0) (nat_lit 646) v1), ((Code.body (behindTheImports ((OpenRow.toRowW (OpenLaw.row Challenge.rw_il0204_01))).1) hd.env_41), ⟨44, 12, 44, 49⟩))))) := by
  intro v0
  rewrite [PySem.W.Fast.te10110043849684766642, PySem.W.Fast.te14364793385576792824, PySem.W.Fast.te2368527892694137696]
  kernel_rfl
theorem hd.p_273 : ((v0 : World) → ((fun (v1 : OsState) => (segRunT treeTable ((OpenRow.toRowW (OpenLaw.row Challenge.rw_il0204_01))).1 (World.withFollow v0 "special-get-raises" Bool.false) (nat_lit 11) (some (Value.ref 6)) (nat_lit 1) (nat_lit 8600) (SharedT.mk (hd.tree_81 (World.params (World.withFollow v0 "special-get-raises" Bool.false))) (nat_lit 46) (Life.mk [] [] [] 0 [] [] Bool.false #[] [] 0 Bool.false Bool.false Bool.false (0 : Int) [(2000 : Int), (10 : Int), (10 : Int)] Bool.false 0 Bool.true [] [] 0 Bool.false) (@Array.mk.{0} GenState []) (Drawn.mk 0 0 0 0) (nat_lit 358) v1) (piecesOf hd.sts_84 hd.env_41 (Code.body (behindTheImports ((OpenRow.toRowW (OpenLaw.row Challenge.rw_il0204_01))).1) hd.env_41) ⟨43, 0, 43, 21⟩ [(topFrame ⟨0, 0, 0, 0⟩)]))) = (fun (v1 : OsState) => (some (Flow.next, ((SharedT.mk (hd.tree_272 (World.params (World.withFollow v0 "special-get-raises" Bool.false))) (nat_lit 233) (Life.mk [] [] [] 0 [] [] Bool.false #[] [] 0 Bool.false Bool.false Bool.false (0 : Int) [(2000 : Int), (10 : Int), (10 : Int)] Bool.false 0 Bool.true [] [] 0 Bool.false) (@Array.mk.{0} GenState []) (Drawn.mk 0 0 0 0) (nat_lit 646) v1), ((Code.body (behindTheImports ((OpenRow.toRowW (OpenLaw.row Challenge.rw_il0204_01))).1) hd.env_41), ⟨44, 12, 44, 49⟩))))))) := fun v0 => funext fun v1 => (hd.go2 (rfl : 3041 + 5559 = 8600) (congrFun (hd.l273_0 v0) v1) (hd.go2 (rfl : 1899 + 3660 = 5559) (congrFun (hd.l273_1 v0) v1) (hd.go2 (rfl : 1875 + 1785 = 3660) (congrFun (hd.l273_2 v0) v1) (congrFun (hd.l273_3 v0) v1))))
theorem hd.l275_0 : (v0 : World) → (fun (v1 : OsState) => (segGoT treeTable ((OpenRow.toRowW (OpenLaw.row Challenge.rw_il0204_01))).1 (World.withFollow v0 "special-get-raises" Bool.true) (nat_lit 11) (some (Value.ref 6)) (nat_lit 1) (nat_lit 3041) (SharedT.mk (hd.tree_81 (World.params (World.withFollow v0 "special-get-raises" Bool.true))) (nat_lit 46) (Life.mk [] [] [] 0 [] [] Bool.false #[] [] 0 Bool.false Bool.false Bool.false (0 : Int) [(2000 : Int), (10 : Int), (10 : Int)] Bool.false 0 Bool.true [] [] 0 Bool.false) (@Array.mk.{0} GenState []) (Drawn.mk 0 0 0 0) (nat_lit 358) v1) (piecesOf hd.sts_84 hd.env_41 (Code.body (behindTheImports ((OpenRow.toRowW (OpenLaw.row Challenge.rw_il0204_01))).1) hd.env_41) ⟨43, 0, 43, 21⟩ [(topFrame ⟨0, 0, 0, 0⟩)]))) = (fun (v1 : OsState) => some ((SharedT.mk (hd.ctree0 (World.params (World.withFollow v0 "special-get-raises" Bool.true))) (nat_lit 99) (Life.mk [] [] [] 0 [] [] Bool.false #[] [] 0 Bool.false Bool.false Bool.false (0 : Int) [(2000 : Int), (10 : Int), (10 : Int)] Bool.false 0 Bool.true [] [] 0 Bool.false) (@Array.mk.{0} GenState []) (Drawn.mk 0 0 0 0) (nat_lit 358) v1), (hd.thr ⟨44, 12, 44, 49⟩))) := by
  intro v0
  rewrite [PySem.W.Fast.te10295753902157049106, PySem.W.Fast.te14364793385576792824, PySem.W.Fast.te2368527892694137696]
  kernel_rfl
theorem hd.l275_1 : (v0 : World) → (fun (v1 : OsState) => (segGoT treeTable ((OpenRow.toRowW (OpenLaw.row Challenge.rw_il0204_01))).1 (World.withFollow v0 "special-get-raises" Bool.true) (nat_lit 11) (some (Value.ref 6)) (nat_lit 1) (nat_lit 1899) (SharedT.mk (hd.ctree0 (World.params (World.withFollow v0 "special-get-raises" Bool.true))) (nat_lit 99) (Life.mk [] [] [] 0 [] [] Bool.false #[] [] 0 Bool.false Bool.false Bool.false (0 : Int) [(2000 : Int), (10 : Int), (10 : Int)] Bool.false 0 Bool.true [] [] 0 Bool.false) (@Array.mk.{0} GenState []) (Drawn.mk 0 0 0 0) (nat_lit 358) v1) (hd.thr ⟨44, 12, 44, 49⟩))) = (fun (v1 : OsState) => some ((SharedT.mk (hd.ctree1 (World.params (World.withFollow v0 "special-get-raises" Bool.true))) (nat_lit 144) (Life.mk [] [] [] 0 [] [] Bool.false #[] [] 0 Bool.false Bool.false Bool.false (0 : Int) [(2000 : Int), (10 : Int), (10 : Int)] Bool.false 0 Bool.true [] [] 0 Bool.false) (@Array.mk.{0} GenState []) (Drawn.mk 0 0 0 0) (nat_lit 451) v1), (hd.thr ⟨46, 4, 46, 42⟩))) := by
  intro v0
  rewrite [PySem.W.Fast.te10295753902157049106, PySem.W.Fast.te14364793385576792824, PySem.W.Fast.te2368527892694137696]
  kernel_rfl
theorem hd.l275_2 : (v0 : World) → (fun (v1 : OsState) => (segGoT treeTable ((OpenRow.toRowW (OpenLaw.row Challenge.rw_il0204_01))).1 (World.withFollow v0 "special-get-raises" Bool.true) (nat_lit 11) (some (Value.ref 6)) (nat_lit 1) (nat_lit 1875) (SharedT.mk (hd.ctree1 (World.params (World.withFollow v0 "special-get-raises" Bool.true))) (nat_lit 144) (Life.mk [] [] [] 0 [] [] Bool.false #[] [] 0 Bool.false Bool.false Bool.false (0 : Int) [(2000 : Int), (10 : Int), (10 : Int)] Bool.false 0 Bool.true [] [] 0 Bool.false) (@Array.mk.{0} GenState []) (Drawn.mk 0 0 0 0) (nat_lit 451) v1) (hd.thr ⟨46, 4, 46, 42⟩))) = (fun (v1 : OsState) => some ((SharedT.mk (hd.ctree2 (World.params (World.withFollow v0 "special-get-raises" Bool.true))) (nat_lit 189) (Life.mk [] [] [] 0 [] [] Bool.false #[] [] 0 Bool.false Bool.false Bool.false (0 : Int) [(2000 : Int), (10 : Int), (10 : Int)] Bool.false 0 Bool.true [] [] 0 Bool.false) (@Array.mk.{0} GenState []) (Drawn.mk 0 0 0 0) (nat_lit 556) v1), (hd.thr ⟨46, 4, 46, 42⟩))) := by
  intro v0
  rewrite [PySem.W.Fast.te10295753902157049106, PySem.W.Fast.te14364793385576792824, PySem.W.Fast.te2368527892694137696]
  kernel_rfl
theorem hd.l275_3 : (v0 : World) → (fun (v1 : OsState) => (segRunT treeTable ((OpenRow.toRowW (OpenLaw.row Challenge.rw_il0204_01))).1 (World.withFollow v0 "special-get-raises" Bool.true) (nat_lit 11) (some (Value.ref 6)) (nat_lit 1) (nat_lit 1785) (SharedT.mk (hd.ctree2 (World.params (World.withFollow v0 "special-get-raises" Bool.true))) (nat_lit 189) (Life.mk [] [] [] 0 [] [] Bool.false #[] [] 0 Bool.false Bool.false Bool.false (0 : Int) [(2000 : Int), (10 : Int), (10 : Int)] Bool.false 0 Bool.true [] [] 0 Bool.false) (@Array.mk.{0} GenState []) (Drawn.mk 0 0 0 0) (nat_lit 556) v1) (hd.thr ⟨46, 4, 46, 42⟩))) = (fun (v1 : OsState) => (some (Flow.next, ((SharedT.mk (hd.tree_272 (World.params (World.withFollow v0 "special-get-raises" Bool.true))) (nat_lit 233) (Life.mk [] [] [] 0 [] [] Bool.false #[] [] 0 Bool.false Bool.false Bool.false (0 : Int) [(2000 : Int), (10 : Int), (10 : Int)] Bool.false 0 Bool.true [] [] 0 Bool.false) (@Array.mk.{0} GenState []) (Drawn.mk 0 0 0 0) (nat_lit 646) v1), ((Code.body (behindTheImports ((OpenRow.toRowW (OpenLaw.row Challenge.rw_il0204_01))).1) hd.env_41), ⟨44, 12, 44, 49⟩))))) := by
  intro v0
  rewrite [PySem.W.Fast.te10110043849684766642, PySem.W.Fast.te14364793385576792824, PySem.W.Fast.te2368527892694137696]
  kernel_rfl
theorem hd.p_275 : ((v0 : World) → ((fun (v1 : OsState) => (segRunT treeTable ((OpenRow.toRowW (OpenLaw.row Challenge.rw_il0204_01))).1 (World.withFollow v0 "special-get-raises" Bool.true) (nat_lit 11) (some (Value.ref 6)) (nat_lit 1) (nat_lit 8600) (SharedT.mk (hd.tree_81 (World.params (World.withFollow v0 "special-get-raises" Bool.true))) (nat_lit 46) (Life.mk [] [] [] 0 [] [] Bool.false #[] [] 0 Bool.false Bool.false Bool.false (0 : Int) [(2000 : Int), (10 : Int), (10 : Int)] Bool.false 0 Bool.true [] [] 0 Bool.false) (@Array.mk.{0} GenState []) (Drawn.mk 0 0 0 0) (nat_lit 358) v1) (piecesOf hd.sts_84 hd.env_41 (Code.body (behindTheImports ((OpenRow.toRowW (OpenLaw.row Challenge.rw_il0204_01))).1) hd.env_41) ⟨43, 0, 43, 21⟩ [(topFrame ⟨0, 0, 0, 0⟩)]))) = (fun (v1 : OsState) => (some (Flow.next, ((SharedT.mk (hd.tree_272 (World.params (World.withFollow v0 "special-get-raises" Bool.true))) (nat_lit 233) (Life.mk [] [] [] 0 [] [] Bool.false #[] [] 0 Bool.false Bool.false Bool.false (0 : Int) [(2000 : Int), (10 : Int), (10 : Int)] Bool.false 0 Bool.true [] [] 0 Bool.false) (@Array.mk.{0} GenState []) (Drawn.mk 0 0 0 0) (nat_lit 646) v1), ((Code.body (behindTheImports ((OpenRow.toRowW (OpenLaw.row Challenge.rw_il0204_01))).1) hd.env_41), ⟨44, 12, 44, 49⟩))))))) := fun v0 => funext fun v1 => (hd.go2 (rfl : 3041 + 5559 = 8600) (congrFun (hd.l275_0 v0) v1) (hd.go2 (rfl : 1899 + 3660 = 5559) (congrFun (hd.l275_1 v0) v1) (hd.go2 (rfl : 1875 + 1785 = 3660) (congrFun (hd.l275_2 v0) v1) (congrFun (hd.l275_3 v0) v1))))
noncomputable def hd.tree_315 : ((v0 : Params) → BT) := (fun (v0 : Params) => (BT.node (boot_o_0 v0) (BT.node (boot_o_1 v0) (BT.node (hd.o_275 v0) (BT.node (boot_o_7 v0) (BT.node (hd.o_51 v0) (BT.node (hd.o_67 v0) (BT.node (hd.o_103 v0) (BT.node (hd.o_167 v0) (BT.node (hd.o_299 v0) BT.nil BT.nil) BT.nil) (BT.node (hd.o_231 v0) BT.nil BT.nil)) (BT.node (hd.o_135 v0) (BT.node (hd.o_199 v0) BT.nil BT.nil) (BT.node (hd.o_263 v0) BT.nil BT.nil))) (BT.node (hd.o_87 v0) (BT.node (hd.o_119 v0) (BT.node (hd.o_183 v0) (BT.node (hd.o_315 v0) BT.nil BT.nil) BT.nil) (BT.node (hd.o_247 v0) BT.nil BT.nil)) (BT.node (hd.o_151 v0) (BT.node (hd.o_215 v0) BT.nil BT.nil) (BT.node (hd.o_283 v0) BT.nil BT.nil)))) (BT.node (hd.o_59 v0) (BT.node (hd.o_75 v0) (BT.node (hd.o_111 v0) (BT.node (hd.o_175 v0) (BT.node (hd.o_307 v0) BT.nil BT.nil) BT.nil) (BT.node (hd.o_239 v0) BT.nil BT.nil)) (BT.node (hd.o_143 v0) (BT.node (hd.o_207 v0) BT.nil BT.nil) (BT.node (hd.o_271 v0) BT.nil BT.nil))) (BT.node (hd.o_95 v0) (BT.node (hd.o_127 v0) (BT.node (hd.o_191 v0) BT.nil BT.nil) (BT.node (hd.o_255 v0) BT.nil BT.nil)) (BT.node (hd.o_159 v0) (BT.node (hd.o_223 v0) BT.nil BT.nil) (BT.node (hd.o_291 v0) BT.nil BT.nil))))) (BT.node (hd.o_43 v0) (BT.node (hd.o_55 v0) (BT.node (hd.o_71 v0) (BT.node (hd.o_107 v0) (BT.node (hd.o_171 v0) (BT.node (hd.o_303 v0) BT.nil BT.nil) BT.nil) (BT.node (hd.o_235 v0) BT.nil BT.nil)) (BT.node (hd.o_139 v0) (BT.node (hd.o_203 v0) BT.nil BT.nil) (BT.node (hd.o_267 v0) BT.nil BT.nil))) (BT.node (hd.o_91 v0) (BT.node (hd.o_123 v0) (BT.node (hd.o_187 v0) BT.nil BT.nil) (BT.node (hd.o_251 v0) BT.nil BT.nil)) (BT.node (hd.o_155 v0) (BT.node (hd.o_219 v0) BT.nil BT.nil) (BT.node (hd.o_287 v0) BT.nil BT.nil)))) (BT.node (hd.o_63 v0) (BT.node (hd.o_85 v0) (BT.node (hd.o_115 v0) (BT.node (hd.o_179 v0) (BT.node (hd.o_311 v0) BT.nil BT.nil) BT.nil) (BT.node (hd.o_243 v0) BT.nil BT.nil)) (BT.node (hd.o_147 v0) (BT.node (hd.o_211 v0) BT.nil BT.nil) (BT.node (hd.o_279 v0) BT.nil BT.nil))) (BT.node (hd.o_99 v0) (BT.node (hd.o_131 v0) (BT.node (hd.o_195 v0) BT.nil BT.nil) (BT.node (hd.o_259 v0) BT.nil BT.nil)) (BT.node (hd.o_163 v0) (BT.node (hd.o_227 v0) BT.nil BT.nil) (BT.node (hd.o_295 v0) BT.nil BT.nil)))))) (BT.node (boot_o_5 v0) (BT.node (boot_o_9 v0) (BT.node (hd.o_53 v0) (BT.node (hd.o_69 v0) (BT.node (hd.o_105 v0) (BT.node (hd.o_169 v0) (BT.node (hd.o_301 v0) BT.nil BT.nil) BT.nil) (BT.node (hd.o_233 v0) BT.nil BT.nil)) (BT.node (hd.o_137 v0) (BT.node (hd.o_201 v0) BT.nil BT.nil) (BT.node (hd.o_265 v0) BT.nil BT.nil))) (BT.node (hd.o_89 v0) (BT.node (hd.o_121 v0) (BT.node (hd.o_185 v0) BT.nil BT.nil) (BT.node (hd.o_249 v0) BT.nil BT.nil)) (BT.node (hd.o_153 v0) (BT.node (hd.o_217 v0) BT.nil BT.nil) (BT.node (hd.o_285 v0) BT.nil BT.nil)))) (BT.node (hd.o_61 v0) (BT.node (hd.o_77 v0) (BT.node (hd.o_113 v0) (BT.node (hd.o_177 v0) (BT.node (hd.o_309 v0) BT.nil BT.nil) BT.nil) (BT.node (hd.o_241 v0) BT.nil BT.nil)) (BT.node (hd.o_145 v0) (BT.node (hd.o_209 v0) BT.nil BT.nil) (BT.node (hd.o_277 v0) BT.nil BT.nil))) (BT.node (hd.o_97 v0) (BT.node (hd.o_129 v0) (BT.node (hd.o_193 v0) BT.nil BT.nil) (BT.node (hd.o_257 v0) BT.nil BT.nil)) (BT.node (hd.o_161 v0) (BT.node (hd.o_225 v0) BT.nil BT.nil) (BT.node (hd.o_293 v0) BT.nil BT.nil))))) (BT.node (hd.o_45 v0) (BT.node (hd.o_57 v0) (BT.node (hd.o_73 v0) (BT.node (hd.o_109 v0) (BT.node (hd.o_173 v0) (BT.node (hd.o_305 v0) BT.nil BT.nil) BT.nil) (BT.node (hd.o_237 v0) BT.nil BT.nil)) (BT.node (hd.o_141 v0) (BT.node (hd.o_205 v0) BT.nil BT.nil) (BT.node (hd.o_269 v0) BT.nil BT.nil))) (BT.node (hd.o_93 v0) (BT.node (hd.o_125 v0) (BT.node (hd.o_189 v0) BT.nil BT.nil) (BT.node (hd.o_253 v0) BT.nil BT.nil)) (BT.node (hd.o_157 v0) (BT.node (hd.o_221 v0) BT.nil BT.nil) (BT.node (hd.o_289 v0) BT.nil BT.nil)))) (BT.node (hd.o_65 v0) (BT.node (hd.o_81 v0) (BT.node (hd.o_117 v0) (BT.node (hd.o_181 v0) (BT.node (hd.o_313 v0) BT.nil BT.nil) BT.nil) (BT.node (hd.o_245 v0) BT.nil BT.nil)) (BT.node (hd.o_149 v0) (BT.node (hd.o_213 v0) BT.nil BT.nil) (BT.node (hd.o_281 v0) BT.nil BT.nil))) (BT.node (hd.o_101 v0) (BT.node (hd.o_133 v0) (BT.node (hd.o_197 v0) BT.nil BT.nil) (BT.node (hd.o_261 v0) BT.nil BT.nil)) (BT.node (hd.o_165 v0) (BT.node (hd.o_229 v0) BT.nil BT.nil) (BT.node (hd.o_297 v0) BT.nil BT.nil))))))) (BT.node (boot_o_2 v0) (BT.node (boot_o_4 v0) (BT.node (boot_o_8 v0) (BT.node (hd.o_52 v0) (BT.node (hd.o_68 v0) (BT.node (hd.o_104 v0) (BT.node (hd.o_168 v0) (BT.node (hd.o_300 v0) BT.nil BT.nil) BT.nil) (BT.node (hd.o_232 v0) BT.nil BT.nil)) (BT.node (hd.o_136 v0) (BT.node (hd.o_200 v0) BT.nil BT.nil) (BT.node (hd.o_264 v0) BT.nil BT.nil))) (BT.node (hd.o_88 v0) (BT.node (hd.o_120 v0) (BT.node (hd.o_184 v0) BT.nil BT.nil) (BT.node (hd.o_248 v0) BT.nil BT.nil)) (BT.node (hd.o_152 v0) (BT.node (hd.o_216 v0) BT.nil BT.nil) (BT.node (hd.o_284 v0) BT.nil BT.nil)))) (BT.node (hd.o_60 v0) (BT.node (hd.o_76 v0) (BT.node (hd.o_112 v0) (BT.node (hd.o_176 v0) (BT.node (hd.o_308 v0) BT.nil BT.nil) BT.nil) (BT.node (hd.o_240 v0) BT.nil BT.nil)) (BT.node (hd.o_144 v0) (BT.node (hd.o_208 v0) BT.nil BT.nil) (BT.node (hd.o_272 v0) BT.nil BT.nil))) (BT.node (hd.o_96 v0) (BT.node (hd.o_128 v0) (BT.node (hd.o_192 v0) BT.nil BT.nil) (BT.node (hd.o_256 v0) BT.nil BT.nil)) (BT.node (hd.o_160 v0) (BT.node (hd.o_224 v0) BT.nil BT.nil) (BT.node (hd.o_292 v0) BT.nil BT.nil))))) (BT.node (hd.o_276 v0) (BT.node (hd.o_56 v0) (BT.node (hd.o_72 v0) (BT.node (hd.o_108 v0) (BT.node (hd.o_172 v0) (BT.node (hd.o_304 v0) BT.nil BT.nil) BT.nil) (BT.node (hd.o_236 v0) BT.nil BT.nil)) (BT.node (hd.o_140 v0) (BT.node (hd.o_204 v0) BT.nil BT.nil) (BT.node (hd.o_268 v0) BT.nil BT.nil))) (BT.node (hd.o_92 v0) (BT.node (hd.o_124 v0) (BT.node (hd.o_188 v0) BT.nil BT.nil) (BT.node (hd.o_252 v0) BT.nil BT.nil)) (BT.node (hd.o_156 v0) (BT.node (hd.o_220 v0) BT.nil BT.nil) (BT.node (hd.o_288 v0) BT.nil BT.nil)))) (BT.node (hd.o_64 v0) (BT.node (hd.o_80 v0) (BT.node (hd.o_116 v0) (BT.node (hd.o_180 v0) (BT.node (hd.o_312 v0) BT.nil BT.nil) BT.nil) (BT.node (hd.o_244 v0) BT.nil BT.nil)) (BT.node (hd.o_148 v0) (BT.node (hd.o_212 v0) BT.nil BT.nil) (BT.node (hd.o_280 v0) BT.nil BT.nil))) (BT.node (hd.o_100 v0) (BT.node (hd.o_132 v0) (BT.node (hd.o_196 v0) BT.nil BT.nil) (BT.node (hd.o_260 v0) BT.nil BT.nil)) (BT.node (hd.o_164 v0) (BT.node (hd.o_228 v0) BT.nil BT.nil) (BT.node (hd.o_296 v0) BT.nil BT.nil)))))) (BT.node (boot_o_6 v0) (BT.node (boot_o_10 v0) (BT.node (hd.o_54 v0) (BT.node (hd.o_70 v0) (BT.node (hd.o_106 v0) (BT.node (hd.o_170 v0) (BT.node (hd.o_302 v0) BT.nil BT.nil) BT.nil) (BT.node (hd.o_234 v0) BT.nil BT.nil)) (BT.node (hd.o_138 v0) (BT.node (hd.o_202 v0) BT.nil BT.nil) (BT.node (hd.o_266 v0) BT.nil BT.nil))) (BT.node (hd.o_90 v0) (BT.node (hd.o_122 v0) (BT.node (hd.o_186 v0) BT.nil BT.nil) (BT.node (hd.o_250 v0) BT.nil BT.nil)) (BT.node (hd.o_154 v0) (BT.node (hd.o_218 v0) BT.nil BT.nil) (BT.node (hd.o_286 v0) BT.nil BT.nil)))) (BT.node (hd.o_62 v0) (BT.node (hd.o_78 v0) (BT.node (hd.o_114 v0) (BT.node (hd.o_178 v0) (BT.node (hd.o_310 v0) BT.nil BT.nil) BT.nil) (BT.node (hd.o_242 v0) BT.nil BT.nil)) (BT.node (hd.o_146 v0) (BT.node (hd.o_210 v0) BT.nil BT.nil) (BT.node (hd.o_278 v0) BT.nil BT.nil))) (BT.node (hd.o_98 v0) (BT.node (hd.o_130 v0) (BT.node (hd.o_194 v0) BT.nil BT.nil) (BT.node (hd.o_258 v0) BT.nil BT.nil)) (BT.node (hd.o_162 v0) (BT.node (hd.o_226 v0) BT.nil BT.nil) (BT.node (hd.o_294 v0) BT.nil BT.nil))))) (BT.node (hd.o_46 v0) (BT.node (hd.o_58 v0) (BT.node (hd.o_74 v0) (BT.node (hd.o_110 v0) (BT.node (hd.o_174 v0) (BT.node (hd.o_306 v0) BT.nil BT.nil) BT.nil) (BT.node (hd.o_238 v0) BT.nil BT.nil)) (BT.node (hd.o_142 v0) (BT.node (hd.o_206 v0) BT.nil BT.nil) (BT.node (hd.o_270 v0) BT.nil BT.nil))) (BT.node (hd.o_94 v0) (BT.node (hd.o_126 v0) (BT.node (hd.o_190 v0) BT.nil BT.nil) (BT.node (hd.o_254 v0) BT.nil BT.nil)) (BT.node (hd.o_158 v0) (BT.node (hd.o_222 v0) BT.nil BT.nil) (BT.node (hd.o_290 v0) BT.nil BT.nil)))) (BT.node (hd.o_66 v0) (BT.node (hd.o_86 v0) (BT.node (hd.o_118 v0) (BT.node (hd.o_182 v0) (BT.node (hd.o_314 v0) BT.nil BT.nil) BT.nil) (BT.node (hd.o_246 v0) BT.nil BT.nil)) (BT.node (hd.o_150 v0) (BT.node (hd.o_214 v0) BT.nil BT.nil) (BT.node (hd.o_282 v0) BT.nil BT.nil))) (BT.node (hd.o_102 v0) (BT.node (hd.o_134 v0) (BT.node (hd.o_198 v0) BT.nil BT.nil) (BT.node (hd.o_262 v0) BT.nil BT.nil)) (BT.node (hd.o_166 v0) (BT.node (hd.o_230 v0) BT.nil BT.nil) (BT.node (hd.o_298 v0) BT.nil BT.nil)))))))))
theorem hd.p_316 : ((v0 : World) → ((fun (v1 : OsState) => (segRunT treeTable ((OpenRow.toRowW (OpenLaw.row Challenge.rw_il0204_01))).1 (World.withFollow v0 "special-get-raises" Bool.false) (nat_lit 11) (some (Value.ref 6)) (nat_lit 1) (nat_lit 1604) (SharedT.mk (hd.tree_272 (World.params (World.withFollow v0 "special-get-raises" Bool.false))) (nat_lit 233) (Life.mk [] [] [] 0 [] [] Bool.false #[] [] 0 Bool.false Bool.false Bool.false (0 : Int) [(2000 : Int), (10 : Int), (10 : Int)] Bool.false 0 Bool.true [] [] 0 Bool.false) (@Array.mk.{0} GenState []) (Drawn.mk 0 0 0 0) (nat_lit 646) v1) (piecesOf hd.sts_275 hd.env_41 (Code.body (behindTheImports ((OpenRow.toRowW (OpenLaw.row Challenge.rw_il0204_01))).1) hd.env_41) ⟨44, 12, 44, 49⟩ [(topFrame ⟨0, 0, 0, 0⟩)]))) = (fun (v1 : OsState) => (some (Flow.next, ((SharedT.mk (hd.tree_315 (World.params (World.withFollow v0 "special-get-raises" Bool.false))) (nat_lit 272) (Life.mk [] [] [] 0 [] [] Bool.false #[] [] 0 Bool.false Bool.false Bool.false (0 : Int) [(2000 : Int), (10 : Int), (10 : Int)] Bool.false 0 Bool.true [] [] 0 Bool.false) (@Array.mk.{0} GenState []) (Drawn.mk 0 0 0 0) (nat_lit 888) v1), ((Code.body (behindTheImports ((OpenRow.toRowW (OpenLaw.row Challenge.rw_il0204_01))).1) hd.env_41), ⟨152, 0, 183, 15⟩))))))) := by
  intro v0
  rewrite [PySem.W.Fast.te10110043849684766642, PySem.W.Fast.te14364793385576792824, PySem.W.Fast.te2368527892694137696]
  kernel_rfl
theorem hd.p_318 : ((v0 : World) → ((fun (v1 : OsState) => (segRunT treeTable ((OpenRow.toRowW (OpenLaw.row Challenge.rw_il0204_01))).1 (World.withFollow v0 "special-get-raises" Bool.true) (nat_lit 11) (some (Value.ref 6)) (nat_lit 1) (nat_lit 1604) (SharedT.mk (hd.tree_272 (World.params (World.withFollow v0 "special-get-raises" Bool.true))) (nat_lit 233) (Life.mk [] [] [] 0 [] [] Bool.false #[] [] 0 Bool.false Bool.false Bool.false (0 : Int) [(2000 : Int), (10 : Int), (10 : Int)] Bool.false 0 Bool.true [] [] 0 Bool.false) (@Array.mk.{0} GenState []) (Drawn.mk 0 0 0 0) (nat_lit 646) v1) (piecesOf hd.sts_275 hd.env_41 (Code.body (behindTheImports ((OpenRow.toRowW (OpenLaw.row Challenge.rw_il0204_01))).1) hd.env_41) ⟨44, 12, 44, 49⟩ [(topFrame ⟨0, 0, 0, 0⟩)]))) = (fun (v1 : OsState) => (some (Flow.next, ((SharedT.mk (hd.tree_315 (World.params (World.withFollow v0 "special-get-raises" Bool.true))) (nat_lit 272) (Life.mk [] [] [] 0 [] [] Bool.false #[] [] 0 Bool.false Bool.false Bool.false (0 : Int) [(2000 : Int), (10 : Int), (10 : Int)] Bool.false 0 Bool.true [] [] 0 Bool.false) (@Array.mk.{0} GenState []) (Drawn.mk 0 0 0 0) (nat_lit 888) v1), ((Code.body (behindTheImports ((OpenRow.toRowW (OpenLaw.row Challenge.rw_il0204_01))).1) hd.env_41), ⟨152, 0, 183, 15⟩))))))) := by
  intro v0
  rewrite [PySem.W.Fast.te10110043849684766642, PySem.W.Fast.te14364793385576792824, PySem.W.Fast.te2368527892694137696]
  kernel_rfl
theorem hd.p_320 : ((v0 : World) → ((fun (v1 : OsState) => (topRun treeTable ((OpenRow.toRowW (OpenLaw.row Challenge.rw_il0204_01))).1 v0 (nat_lit 11) (some (Value.ref 6)) (nat_lit 2) (SharedT.abs (SharedT.mk (hd.tree_315 (World.params v0)) (nat_lit 272) (Life.mk [] [] [] 0 [] [] Bool.false #[] [] 0 Bool.false Bool.false Bool.false (0 : Int) [(2000 : Int), (10 : Int), (10 : Int)] Bool.false 0 Bool.true [] [] 0 Bool.false) (@Array.mk.{0} GenState []) (Drawn.mk 0 0 0 0) (nat_lit 888) v1)) (Thread.mk (doneF Flow.next) (Code.body (behindTheImports ((OpenRow.toRowW (OpenLaw.row Challenge.rw_il0204_01))).1) hd.env_41) ⟨152, 0, 183, 15⟩ [(topFrame ⟨0, 0, 0, 0⟩)]))) = (fun (v1 : OsState) => (some (Shared.mk (hd.heap_318 (World.params v0)) (@Array.mk.{0} GenState []) (Drawn.mk 0 0 0 0) (nat_lit 888) v1))))) := by
  intro v0
  rewrite [PySem.W.Fast.te14082659384304107361, PySem.W.Fast.te14364793385576792824, PySem.W.Fast.te2368527892694137696]
  kernel_rfl
theorem hd.p_run : ((v0 : World) → ((v1 : OsState) → ((topRun treeTable ((OpenRow.toRowW (OpenLaw.row Challenge.rw_il0204_01))).1 v0 (nat_lit 11) (some (Value.ref 6)) (Nat.add (nat_lit 12) (Nat.add (nat_lit 1) (Nat.add (nat_lit 980) (Nat.add (nat_lit 8600) (Nat.add (nat_lit 1604) (nat_lit 2)))))) (Shared.mk (boot_heap (World.params v0)) (@Array.mk.{0} GenState []) boot_drawn boot_toks v1) (topStub ((OpenRow.toRowW (OpenLaw.row Challenge.rw_il0204_01))).1)) = (some (Shared.mk (hd.heap_318 (World.params v0)) (@Array.mk.{0} GenState []) (Drawn.mk 0 0 0 0) (nat_lit 888) v1))))) := (fun (v0 : World) => (fun (v1 : OsState) => (go_top (congrFun (hd.p_47 v0) v1) (piece_block (congrFun (hd.p_49 v0) v1) (Eq.mp (by kernel_rfl) (@piece_app treeTable ((OpenRow.toRowW (OpenLaw.row Challenge.rw_il0204_01))).1 v0 (nat_lit 11) (some (Value.ref 6)) hd.env_41 ⟨0, 0, 0, 0⟩ (nat_lit 980) (Nat.add (nat_lit 8600) (Nat.add (nat_lit 1604) (nat_lit 2))) (SharedT.abs (SharedT.mk (hd.tree_47 (World.params v0)) (nat_lit 15) (Life.mk [] [] [] 0 [] [] Bool.false #[] [] 0 Bool.false Bool.false Bool.false (0 : Int) [(2000 : Int), (10 : Int), (10 : Int)] Bool.false 0 Bool.true [] [] 0 Bool.false) (@Array.mk.{0} GenState []) (Drawn.mk 0 0 0 0) (nat_lit 187) v1)) (SharedT.abs (SharedT.mk (hd.tree_81 (World.params v0)) (nat_lit 46) (Life.mk [] [] [] 0 [] [] Bool.false #[] [] 0 Bool.false Bool.false Bool.false (0 : Int) [(2000 : Int), (10 : Int), (10 : Int)] Bool.false 0 Bool.true [] [] 0 Bool.false) (@Array.mk.{0} GenState []) (Drawn.mk 0 0 0 0) (nat_lit 358) v1)) (Shared.mk (hd.heap_318 (World.params v0)) (@Array.mk.{0} GenState []) (Drawn.mk 0 0 0 0) (nat_lit 888) v1) hd.sts_49 (@HAppend.hAppend.{0, 0, 0} (List.{0} Stmt) (List.{0} Stmt) (List.{0} Stmt) (@instHAppendOfAppend.{0} (List.{0} Stmt) (@List.instAppend.{0} Stmt)) hd.sts_84 (@HAppend.hAppend.{0, 0, 0} (List.{0} Stmt) (List.{0} Stmt) (List.{0} Stmt) (@instHAppendOfAppend.{0} (List.{0} Stmt) (@List.instAppend.{0} Stmt)) hd.sts_275 [])) (Code.body (behindTheImports ((OpenRow.toRowW (OpenLaw.row Challenge.rw_il0204_01))).1) hd.env_41) ⟨0, 0, 0, 0⟩ ⟨43, 0, 43, 21⟩ (congrFun ((fun (v2 : World) => (funext (fun (v3 : OsState) => (segRun_of (congrFun (@byRow2 "special-get-raises" (fun (v4 : World) => ((fun (v5 : OsState) => (segRunT treeTable ((OpenRow.toRowW (OpenLaw.row Challenge.rw_il0204_01))).1 v4 (nat_lit 11) (some (Value.ref 6)) (nat_lit 1) (nat_lit 980) (SharedT.mk (hd.tree_47 (World.params v4)) (nat_lit 15) (Life.mk [] [] [] 0 [] [] Bool.false #[] [] 0 Bool.false Bool.false Bool.false (0 : Int) [(2000 : Int), (10 : Int), (10 : Int)] Bool.false 0 Bool.true [] [] 0 Bool.false) (@Array.mk.{0} GenState []) (Drawn.mk 0 0 0 0) (nat_lit 187) v5) (piecesOf hd.sts_49 hd.env_41 (Code.body (behindTheImports ((OpenRow.toRowW (OpenLaw.row Challenge.rw_il0204_01))).1) hd.env_41) ⟨0, 0, 0, 0⟩ [(topFrame ⟨0, 0, 0, 0⟩)]))) = (fun (v5 : OsState) => (some (Flow.next, ((SharedT.mk (hd.tree_81 (World.params v4)) (nat_lit 46) (Life.mk [] [] [] 0 [] [] Bool.false #[] [] 0 Bool.false Bool.false Bool.false (0 : Int) [(2000 : Int), (10 : Int), (10 : Int)] Bool.false 0 Bool.true [] [] 0 Bool.false) (@Array.mk.{0} GenState []) (Drawn.mk 0 0 0 0) (nat_lit 358) v5), ((Code.body (behindTheImports ((OpenRow.toRowW (OpenLaw.row Challenge.rw_il0204_01))).1) hd.env_41), ⟨43, 0, 43, 21⟩))))))) hd.p_82 hd.p_84 v2) v3))))) v0) v1) (@piece_app treeTable ((OpenRow.toRowW (OpenLaw.row Challenge.rw_il0204_01))).1 v0 (nat_lit 11) (some (Value.ref 6)) hd.env_41 ⟨0, 0, 0, 0⟩ (nat_lit 8600) (Nat.add (nat_lit 1604) (nat_lit 2)) (SharedT.abs (SharedT.mk (hd.tree_81 (World.params v0)) (nat_lit 46) (Life.mk [] [] [] 0 [] [] Bool.false #[] [] 0 Bool.false Bool.false Bool.false (0 : Int) [(2000 : Int), (10 : Int), (10 : Int)] Bool.false 0 Bool.true [] [] 0 Bool.false) (@Array.mk.{0} GenState []) (Drawn.mk 0 0 0 0) (nat_lit 358) v1)) (SharedT.abs (SharedT.mk (hd.tree_272 (World.params v0)) (nat_lit 233) (Life.mk [] [] [] 0 [] [] Bool.false #[] [] 0 Bool.false Bool.false Bool.false (0 : Int) [(2000 : Int), (10 : Int), (10 : Int)] Bool.false 0 Bool.true [] [] 0 Bool.false) (@Array.mk.{0} GenState []) (Drawn.mk 0 0 0 0) (nat_lit 646) v1)) (Shared.mk (hd.heap_318 (World.params v0)) (@Array.mk.{0} GenState []) (Drawn.mk 0 0 0 0) (nat_lit 888) v1) hd.sts_84 (@HAppend.hAppend.{0, 0, 0} (List.{0} Stmt) (List.{0} Stmt) (List.{0} Stmt) (@instHAppendOfAppend.{0} (List.{0} Stmt) (@List.instAppend.{0} Stmt)) hd.sts_275 []) (Code.body (behindTheImports ((OpenRow.toRowW (OpenLaw.row Challenge.rw_il0204_01))).1) hd.env_41) ⟨43, 0, 43, 21⟩ ⟨44, 12, 44, 49⟩ (congrFun ((fun (v2 : World) => (funext (fun (v3 : OsState) => (segRun_of (congrFun (@byRow2 "special-get-raises" (fun (v4 : World) => ((fun (v5 : OsState) => (segRunT treeTable ((OpenRow.toRowW (OpenLaw.row Challenge.rw_il0204_01))).1 v4 (nat_lit 11) (some (Value.ref 6)) (nat_lit 1) (nat_lit 8600) (SharedT.mk (hd.tree_81 (World.params v4)) (nat_lit 46) (Life.mk [] [] [] 0 [] [] Bool.false #[] [] 0 Bool.false Bool.false Bool.false (0 : Int) [(2000 : Int), (10 : Int), (10 : Int)] Bool.false 0 Bool.true [] [] 0 Bool.false) (@Array.mk.{0} GenState []) (Drawn.mk 0 0 0 0) (nat_lit 358) v5) (piecesOf hd.sts_84 hd.env_41 (Code.body (behindTheImports ((OpenRow.toRowW (OpenLaw.row Challenge.rw_il0204_01))).1) hd.env_41) ⟨43, 0, 43, 21⟩ [(topFrame ⟨0, 0, 0, 0⟩)]))) = (fun (v5 : OsState) => (some (Flow.next, ((SharedT.mk (hd.tree_272 (World.params v4)) (nat_lit 233) (Life.mk [] [] [] 0 [] [] Bool.false #[] [] 0 Bool.false Bool.false Bool.false (0 : Int) [(2000 : Int), (10 : Int), (10 : Int)] Bool.false 0 Bool.true [] [] 0 Bool.false) (@Array.mk.{0} GenState []) (Drawn.mk 0 0 0 0) (nat_lit 646) v5), ((Code.body (behindTheImports ((OpenRow.toRowW (OpenLaw.row Challenge.rw_il0204_01))).1) hd.env_41), ⟨44, 12, 44, 49⟩))))))) hd.p_273 hd.p_275 v2) v3))))) v0) v1) (@piece_app treeTable ((OpenRow.toRowW (OpenLaw.row Challenge.rw_il0204_01))).1 v0 (nat_lit 11) (some (Value.ref 6)) hd.env_41 ⟨0, 0, 0, 0⟩ (nat_lit 1604) (nat_lit 2) (SharedT.abs (SharedT.mk (hd.tree_272 (World.params v0)) (nat_lit 233) (Life.mk [] [] [] 0 [] [] Bool.false #[] [] 0 Bool.false Bool.false Bool.false (0 : Int) [(2000 : Int), (10 : Int), (10 : Int)] Bool.false 0 Bool.true [] [] 0 Bool.false) (@Array.mk.{0} GenState []) (Drawn.mk 0 0 0 0) (nat_lit 646) v1)) (SharedT.abs (SharedT.mk (hd.tree_315 (World.params v0)) (nat_lit 272) (Life.mk [] [] [] 0 [] [] Bool.false #[] [] 0 Bool.false Bool.false Bool.false (0 : Int) [(2000 : Int), (10 : Int), (10 : Int)] Bool.false 0 Bool.true [] [] 0 Bool.false) (@Array.mk.{0} GenState []) (Drawn.mk 0 0 0 0) (nat_lit 888) v1)) (Shared.mk (hd.heap_318 (World.params v0)) (@Array.mk.{0} GenState []) (Drawn.mk 0 0 0 0) (nat_lit 888) v1) hd.sts_275 [] (Code.body (behindTheImports ((OpenRow.toRowW (OpenLaw.row Challenge.rw_il0204_01))).1) hd.env_41) ⟨44, 12, 44, 49⟩ ⟨152, 0, 183, 15⟩ (congrFun ((fun (v2 : World) => (funext (fun (v3 : OsState) => (segRun_of (congrFun (@byRow2 "special-get-raises" (fun (v4 : World) => ((fun (v5 : OsState) => (segRunT treeTable ((OpenRow.toRowW (OpenLaw.row Challenge.rw_il0204_01))).1 v4 (nat_lit 11) (some (Value.ref 6)) (nat_lit 1) (nat_lit 1604) (SharedT.mk (hd.tree_272 (World.params v4)) (nat_lit 233) (Life.mk [] [] [] 0 [] [] Bool.false #[] [] 0 Bool.false Bool.false Bool.false (0 : Int) [(2000 : Int), (10 : Int), (10 : Int)] Bool.false 0 Bool.true [] [] 0 Bool.false) (@Array.mk.{0} GenState []) (Drawn.mk 0 0 0 0) (nat_lit 646) v5) (piecesOf hd.sts_275 hd.env_41 (Code.body (behindTheImports ((OpenRow.toRowW (OpenLaw.row Challenge.rw_il0204_01))).1) hd.env_41) ⟨44, 12, 44, 49⟩ [(topFrame ⟨0, 0, 0, 0⟩)]))) = (fun (v5 : OsState) => (some (Flow.next, ((SharedT.mk (hd.tree_315 (World.params v4)) (nat_lit 272) (Life.mk [] [] [] 0 [] [] Bool.false #[] [] 0 Bool.false Bool.false Bool.false (0 : Int) [(2000 : Int), (10 : Int), (10 : Int)] Bool.false 0 Bool.true [] [] 0 Bool.false) (@Array.mk.{0} GenState []) (Drawn.mk 0 0 0 0) (nat_lit 888) v5), ((Code.body (behindTheImports ((OpenRow.toRowW (OpenLaw.row Challenge.rw_il0204_01))).1) hd.env_41), ⟨152, 0, 183, 15⟩))))))) hd.p_316 hd.p_318 v2) v3))))) v0) v1) (congrFun (hd.p_320 v0) v1)))))))))
theorem hd.p_325 : ((v0 : World) → ((fun (v1 : OsState) => (Bool.and (Bool.and (Bool.and (staticsOk (importedModules (Module.body (Program.main ((OpenRow.toRowW (OpenLaw.row Challenge.rw_il0204_01))).1))) (boot_heap (World.params v0)) (hd.heap_318 (World.params v0))) (namesBound ((OpenRow.toRowW (OpenLaw.row Challenge.rw_il0204_01))).1 (hd.heap_318 (World.params v0)))) (gensDone (Shared.mk (hd.heap_318 (World.params v0)) (@Array.mk.{0} GenState []) (Drawn.mk 0 0 0 0) (nat_lit 888) v1))) (laidKept (boot_heap (World.params v0)) (hd.heap_318 (World.params v0))))) = (fun (v1 : OsState) => Bool.true))) := by
  intro v0
  rewrite [PySem.W.Fast.te5923862056798008813, PySem.W.Fast.te2368527892694137696]
  kernel_rfl
theorem hd.p_327 : ((v0 : World) → ((fun (v1 : OsState) => (seen (@List.map.{0, 0} DefRec Str (fun (v2 : DefRec) => (DefRec.name v2)) (recsOf hd.view_39)) (ownsOf hd.view_39) [] (Shared.mk (Shared.heap (Shared.mk (hd.heap_318 (World.params v0)) (@Array.mk.{0} GenState []) (Drawn.mk 0 0 0 0) (nat_lit 888) v1)) #[] (Shared.drawn (Shared.mk (hd.heap_318 (World.params v0)) (@Array.mk.{0} GenState []) (Drawn.mk 0 0 0 0) (nat_lit 888) v1)) (Shared.toks (Shared.mk (hd.heap_318 (World.params v0)) (@Array.mk.{0} GenState []) (Drawn.mk 0 0 0 0) (nat_lit 888) v1)) (Shared.os (Shared.mk (hd.heap_318 (World.params v0)) (@Array.mk.{0} GenState []) (Drawn.mk 0 0 0 0) (nat_lit 888) v1))))) = (fun (v1 : OsState) => (expectedOf hd.view_39)))) := by
  intro v0
  rewrite [PySem.W.Fast.te5160383126252970620, PySem.W.R.mapR_eq, PySem.W.Fast.te3399658132070893891, PySem.W.Fast.te5991557255702980513]
  kernel_rfl
theorem hd.p_328 : ((v0 : World) → ((fun (v1 : OsState) => (Heap.bltView (Shared.heap (Shared.mk (hd.heap_318 (World.params v0)) (@Array.mk.{0} GenState []) (Drawn.mk 0 0 0 0) (nat_lit 888) v1)))) = (fun (v1 : OsState) => bltViewBooted))) := by
  intro v0
  kernel_rfl
theorem hd.p_330 : ((v0 : World) → ((fun (v1 : OsState) => (Bool.and (Bool.and (Bool.and (Bool.and (Bool.and (Bool.and (Heap.keysOk (Shared.heap (Shared.mk (hd.heap_318 (World.params v0)) (@Array.mk.{0} GenState []) (Drawn.mk 0 0 0 0) (nat_lit 888) v1)) (looseW hd.view_39 [(Str.ofString "locale_encoding_alias"), (Str.ofString "EXACT_TOKEN_TYPES")]) (@List.map.{0, 0} DefRec Str (fun (v2 : DefRec) => (DefRec.name v2)) (recsOf hd.view_39)) (@List.map.{0, 0} (Prod.{0, 0} Str PyData) Str (fun (v2 : (Prod.{0, 0} Str PyData)) => (@Prod.fst.{0, 0} Str PyData v2)) (litsOf hd.view_39)) (@List.map.{0, 0} ClsRec Str (fun (v2 : ClsRec) => (ClsRec.name v2)) (clssOf hd.view_39 (looseW hd.view_39 [(Str.ofString "locale_encoding_alias"), (Str.ofString "EXACT_TOKEN_TYPES")])))) (Heap.accountedOkI (Shared.heap (Shared.mk (hd.heap_318 (World.params v0)) (@Array.mk.{0} GenState []) (Drawn.mk 0 0 0 0) (nat_lit 888) v1)) (importedModules (Module.body (Program.main ((OpenRow.toRowW (OpenLaw.row Challenge.rw_il0204_01))).1))))) (Heap.isNs (Shared.heap (Shared.mk (hd.heap_318 (World.params v0)) (@Array.mk.{0} GenState []) (Drawn.mk 0 0 0 0) (nat_lit 888) v1)) mainGlobals)) (Heap.isNs (Shared.heap (Shared.mk (hd.heap_318 (World.params v0)) (@Array.mk.{0} GenState []) (Drawn.mk 0 0 0 0) (nat_lit 888) v1)) builtinsNs)) (tablesOk hd.view_39 (Shared.heap (Shared.mk (hd.heap_318 (World.params v0)) (@Array.mk.{0} GenState []) (Drawn.mk 0 0 0 0) (nat_lit 888) v1)))) ((fun (v2 : Shared) => (Bool.and (xlAt hd.view_39 [] v2) (recOk (RowW.records (OpenRow.toRowW (OpenLaw.row Challenge.rw_il0204_01))) v2))) (Shared.mk (hd.heap_318 (World.params v0)) (@Array.mk.{0} GenState []) (Drawn.mk 0 0 0 0) (nat_lit 888) v1))) (@ite.{1} Bool (Bool.true = Bool.true) (instDecidableEqBool Bool.true Bool.true) (@BEq.beq.{0} Nat (@instBEqOfDecidableEq.{0} Nat instDecidableEqNat) (@Array.size.{0} GenState (Shared.gens (Shared.mk (hd.heap_318 (World.params v0)) (@Array.mk.{0} GenState []) (Drawn.mk 0 0 0 0) (nat_lit 888) v1))) 0) (Bool.not (leftWithCleanup (Shared.gens (Shared.mk (hd.heap_318 (World.params v0)) (@Array.mk.{0} GenState []) (Drawn.mk 0 0 0 0) (nat_lit 888) v1))))))) = (fun (v1 : OsState) => Bool.true))) := by
  intro v0
  rewrite [PySem.W.Fast.te10880121769531294198, PySem.W.Fast.te821141287760084731, PySem.W.R.mapR_eq, PySem.W.Fast.te3399658132070893891, PySem.W.Fast.te7409074990110511671, PySem.W.Fast.te13664370479719496447, PySem.W.Fast.te14722251495701143533, PySem.W.Fast.te5923862056798008813, PySem.W.Fast.te2368527892694137696, PySem.W.Fast.te10994771534591457954]
  kernel_rfl
theorem hd.p_332 : ((v0 : World) → ((fun (v1 : OsState) => (tabsOk hd.view_39 (Shared.mk (hd.heap_318 (World.params v0)) (@Array.mk.{0} GenState []) (Drawn.mk 0 0 0 0) (nat_lit 888) v1))) = (fun (v1 : OsState) => Bool.true))) := by
  intro v0
  rewrite [PySem.W.Fast.te479339242167458305]
  kernel_rfl
theorem hd.p_334 : ((v0 : World) → ((fun (v1 : OsState) => (pinSeenD hd.view_39 (drecsOf hd.view_39) (Shared.mk (hd.heap_318 (World.params v0)) (@Array.mk.{0} GenState []) (Drawn.mk 0 0 0 0) (nat_lit 888) v1))) = (fun (v1 : OsState) => (pinGoodD (drecsOf hd.view_39))))) := by
  intro v0
  rewrite [PySem.W.Fast.te16090120013241838585, PySem.W.Fast.te3247288618530077131]
  kernel_rfl
theorem hd.p_336 : ((v0 : World) → ((fun (v1 : OsState) => (plainSeenE hd.view_39 (looseW hd.view_39 [(Str.ofString "locale_encoding_alias"), (Str.ofString "EXACT_TOKEN_TYPES")]) (Shared.mk (hd.heap_318 (World.params v0)) (@Array.mk.{0} GenState []) (Drawn.mk 0 0 0 0) (nat_lit 888) v1))) = (fun (v1 : OsState) => (plainGoodE hd.view_39 (looseW hd.view_39 [(Str.ofString "locale_encoding_alias"), (Str.ofString "EXACT_TOKEN_TYPES")]))))) := by
  intro v0
  rewrite [PySem.W.Fast.te2386780881361962483, PySem.W.Fast.te821141287760084731]
  kernel_rfl
theorem hd.p_338 : ((v0 : World) → ((fun (v1 : OsState) => (plainSeenD hd.view_39 [(Str.ofString "locale_encoding_alias"), (Str.ofString "EXACT_TOKEN_TYPES")] (Shared.mk (hd.heap_318 (World.params v0)) (@Array.mk.{0} GenState []) (Drawn.mk 0 0 0 0) (nat_lit 888) v1))) = (fun (v1 : OsState) => (plainGoodD hd.view_39 [(Str.ofString "locale_encoding_alias"), (Str.ofString "EXACT_TOKEN_TYPES")])))) := by
  intro v0
  rewrite [PySem.W.Fast.te11698064438423848299]
  kernel_rfl
theorem hd.p_340 : ((v0 : World) → ((fun (v1 : OsState) => (wideSeen hd.view_39 (Shared.mk (hd.heap_318 (World.params v0)) (@Array.mk.{0} GenState []) (Drawn.mk 0 0 0 0) (nat_lit 888) v1))) = (fun (v1 : OsState) => (wideGood hd.view_39)))) := by
  intro v0
  rewrite [PySem.W.Fast.te7317090234206586261]
  kernel_rfl
theorem hd.p_342 : ((v0 : World) → ((fun (v1 : OsState) => (clsSeenW hd.view_39 [(Str.ofString "locale_encoding_alias"), (Str.ofString "EXACT_TOKEN_TYPES")] (Shared.mk (hd.heap_318 (World.params v0)) (@Array.mk.{0} GenState []) (Drawn.mk 0 0 0 0) (nat_lit 888) v1))) = (fun (v1 : OsState) => (clsGoodW hd.view_39 [(Str.ofString "locale_encoding_alias"), (Str.ofString "EXACT_TOKEN_TYPES")])))) := by
  intro v0
  rewrite [PySem.W.Fast.te7369524293546568484]
  kernel_rfl
theorem hd.p_343 : ((v0 : World) → ((v1 : OsState) → (((wideSeen hd.view_39 (Shared.mk (hd.heap_318 (World.params v0)) (@Array.mk.{0} GenState []) (Drawn.mk 0 0 0 0) (nat_lit 888) v1)), (clsSeenW hd.view_39 [(Str.ofString "locale_encoding_alias"), (Str.ofString "EXACT_TOKEN_TYPES")] (Shared.mk (hd.heap_318 (World.params v0)) (@Array.mk.{0} GenState []) (Drawn.mk 0 0 0 0) (nat_lit 888) v1))) = ((wideGood hd.view_39), (clsGoodW hd.view_39 [(Str.ofString "locale_encoding_alias"), (Str.ofString "EXACT_TOKEN_TYPES")]))))) := (fun (v0 : World) => (fun (v1 : OsState) => (looks_pair ((fun (v2 : World) => (fun (v3 : OsState) => (congrFun (hd.p_340 v2) v3))) v0 v1) ((fun (v2 : World) => (fun (v3 : OsState) => (congrFun (hd.p_342 v2) v3))) v0 v1))))
theorem hd.p_344 : ((v0 : World) → ((v1 : OsState) → (((plainSeenD hd.view_39 [(Str.ofString "locale_encoding_alias"), (Str.ofString "EXACT_TOKEN_TYPES")] (Shared.mk (hd.heap_318 (World.params v0)) (@Array.mk.{0} GenState []) (Drawn.mk 0 0 0 0) (nat_lit 888) v1)), ((wideSeen hd.view_39 (Shared.mk (hd.heap_318 (World.params v0)) (@Array.mk.{0} GenState []) (Drawn.mk 0 0 0 0) (nat_lit 888) v1)), (clsSeenW hd.view_39 [(Str.ofString "locale_encoding_alias"), (Str.ofString "EXACT_TOKEN_TYPES")] (Shared.mk (hd.heap_318 (World.params v0)) (@Array.mk.{0} GenState []) (Drawn.mk 0 0 0 0) (nat_lit 888) v1)))) = ((plainGoodD hd.view_39 [(Str.ofString "locale_encoding_alias"), (Str.ofString "EXACT_TOKEN_TYPES")]), ((wideGood hd.view_39), (clsGoodW hd.view_39 [(Str.ofString "locale_encoding_alias"), (Str.ofString "EXACT_TOKEN_TYPES")])))))) := (fun (v0 : World) => (fun (v1 : OsState) => (looks_pair ((fun (v2 : World) => (fun (v3 : OsState) => (congrFun (hd.p_338 v2) v3))) v0 v1) (hd.p_343 v0 v1))))
theorem hd.p_345 : ((v0 : World) → ((v1 : OsState) → (((plainSeenE hd.view_39 (looseW hd.view_39 [(Str.ofString "locale_encoding_alias"), (Str.ofString "EXACT_TOKEN_TYPES")]) (Shared.mk (hd.heap_318 (World.params v0)) (@Array.mk.{0} GenState []) (Drawn.mk 0 0 0 0) (nat_lit 888) v1)), ((plainSeenD hd.view_39 [(Str.ofString "locale_encoding_alias"), (Str.ofString "EXACT_TOKEN_TYPES")] (Shared.mk (hd.heap_318 (World.params v0)) (@Array.mk.{0} GenState []) (Drawn.mk 0 0 0 0) (nat_lit 888) v1)), ((wideSeen hd.view_39 (Shared.mk (hd.heap_318 (World.params v0)) (@Array.mk.{0} GenState []) (Drawn.mk 0 0 0 0) (nat_lit 888) v1)), (clsSeenW hd.view_39 [(Str.ofString "locale_encoding_alias"), (Str.ofString "EXACT_TOKEN_TYPES")] (Shared.mk (hd.heap_318 (World.params v0)) (@Array.mk.{0} GenState []) (Drawn.mk 0 0 0 0) (nat_lit 888) v1))))) = ((plainGoodE hd.view_39 (looseW hd.view_39 [(Str.ofString "locale_encoding_alias"), (Str.ofString "EXACT_TOKEN_TYPES")])), ((plainGoodD hd.view_39 [(Str.ofString "locale_encoding_alias"), (Str.ofString "EXACT_TOKEN_TYPES")]), ((wideGood hd.view_39), (clsGoodW hd.view_39 [(Str.ofString "locale_encoding_alias"), (Str.ofString "EXACT_TOKEN_TYPES")]))))))) := (fun (v0 : World) => (fun (v1 : OsState) => (looks_pair ((fun (v2 : World) => (fun (v3 : OsState) => (congrFun (hd.p_336 v2) v3))) v0 v1) (hd.p_344 v0 v1))))
theorem hd.p_346 : ((v0 : World) → ((v1 : OsState) → (((pinSeenD hd.view_39 (drecsOf hd.view_39) (Shared.mk (hd.heap_318 (World.params v0)) (@Array.mk.{0} GenState []) (Drawn.mk 0 0 0 0) (nat_lit 888) v1)), ((plainSeenE hd.view_39 (looseW hd.view_39 [(Str.ofString "locale_encoding_alias"), (Str.ofString "EXACT_TOKEN_TYPES")]) (Shared.mk (hd.heap_318 (World.params v0)) (@Array.mk.{0} GenState []) (Drawn.mk 0 0 0 0) (nat_lit 888) v1)), ((plainSeenD hd.view_39 [(Str.ofString "locale_encoding_alias"), (Str.ofString "EXACT_TOKEN_TYPES")] (Shared.mk (hd.heap_318 (World.params v0)) (@Array.mk.{0} GenState []) (Drawn.mk 0 0 0 0) (nat_lit 888) v1)), ((wideSeen hd.view_39 (Shared.mk (hd.heap_318 (World.params v0)) (@Array.mk.{0} GenState []) (Drawn.mk 0 0 0 0) (nat_lit 888) v1)), (clsSeenW hd.view_39 [(Str.ofString "locale_encoding_alias"), (Str.ofString "EXACT_TOKEN_TYPES")] (Shared.mk (hd.heap_318 (World.params v0)) (@Array.mk.{0} GenState []) (Drawn.mk 0 0 0 0) (nat_lit 888) v1)))))) = ((pinGoodD (drecsOf hd.view_39)), ((plainGoodE hd.view_39 (looseW hd.view_39 [(Str.ofString "locale_encoding_alias"), (Str.ofString "EXACT_TOKEN_TYPES")])), ((plainGoodD hd.view_39 [(Str.ofString "locale_encoding_alias"), (Str.ofString "EXACT_TOKEN_TYPES")]), ((wideGood hd.view_39), (clsGoodW hd.view_39 [(Str.ofString "locale_encoding_alias"), (Str.ofString "EXACT_TOKEN_TYPES")])))))))) := (fun (v0 : World) => (fun (v1 : OsState) => (looks_pair ((fun (v2 : World) => (fun (v3 : OsState) => (congrFun (hd.p_334 v2) v3))) v0 v1) (hd.p_345 v0 v1))))
theorem hd.p_347 : ((v0 : World) → ((v1 : OsState) → (((tabsOk hd.view_39 (Shared.mk (hd.heap_318 (World.params v0)) (@Array.mk.{0} GenState []) (Drawn.mk 0 0 0 0) (nat_lit 888) v1)), ((pinSeenD hd.view_39 (drecsOf hd.view_39) (Shared.mk (hd.heap_318 (World.params v0)) (@Array.mk.{0} GenState []) (Drawn.mk 0 0 0 0) (nat_lit 888) v1)), ((plainSeenE hd.view_39 (looseW hd.view_39 [(Str.ofString "locale_encoding_alias"), (Str.ofString "EXACT_TOKEN_TYPES")]) (Shared.mk (hd.heap_318 (World.params v0)) (@Array.mk.{0} GenState []) (Drawn.mk 0 0 0 0) (nat_lit 888) v1)), ((plainSeenD hd.view_39 [(Str.ofString "locale_encoding_alias"), (Str.ofString "EXACT_TOKEN_TYPES")] (Shared.mk (hd.heap_318 (World.params v0)) (@Array.mk.{0} GenState []) (Drawn.mk 0 0 0 0) (nat_lit 888) v1)), ((wideSeen hd.view_39 (Shared.mk (hd.heap_318 (World.params v0)) (@Array.mk.{0} GenState []) (Drawn.mk 0 0 0 0) (nat_lit 888) v1)), (clsSeenW hd.view_39 [(Str.ofString "locale_encoding_alias"), (Str.ofString "EXACT_TOKEN_TYPES")] (Shared.mk (hd.heap_318 (World.params v0)) (@Array.mk.{0} GenState []) (Drawn.mk 0 0 0 0) (nat_lit 888) v1))))))) = (Bool.true, ((pinGoodD (drecsOf hd.view_39)), ((plainGoodE hd.view_39 (looseW hd.view_39 [(Str.ofString "locale_encoding_alias"), (Str.ofString "EXACT_TOKEN_TYPES")])), ((plainGoodD hd.view_39 [(Str.ofString "locale_encoding_alias"), (Str.ofString "EXACT_TOKEN_TYPES")]), ((wideGood hd.view_39), (clsGoodW hd.view_39 [(Str.ofString "locale_encoding_alias"), (Str.ofString "EXACT_TOKEN_TYPES")]))))))))) := (fun (v0 : World) => (fun (v1 : OsState) => (looks_pair ((fun (v2 : World) => (fun (v3 : OsState) => (congrFun (hd.p_332 v2) v3))) v0 v1) (hd.p_346 v0 v1))))
theorem hd.p_348 : ((v0 : World) → ((v1 : OsState) → (((Bool.and (Bool.and (Bool.and (Bool.and (Bool.and (Bool.and (Heap.keysOk (Shared.heap (Shared.mk (hd.heap_318 (World.params v0)) (@Array.mk.{0} GenState []) (Drawn.mk 0 0 0 0) (nat_lit 888) v1)) (looseW hd.view_39 [(Str.ofString "locale_encoding_alias"), (Str.ofString "EXACT_TOKEN_TYPES")]) (@List.map.{0, 0} DefRec Str (fun (v2 : DefRec) => (DefRec.name v2)) (recsOf hd.view_39)) (@List.map.{0, 0} (Prod.{0, 0} Str PyData) Str (fun (v2 : (Prod.{0, 0} Str PyData)) => (@Prod.fst.{0, 0} Str PyData v2)) (litsOf hd.view_39)) (@List.map.{0, 0} ClsRec Str (fun (v2 : ClsRec) => (ClsRec.name v2)) (clssOf hd.view_39 (looseW hd.view_39 [(Str.ofString "locale_encoding_alias"), (Str.ofString "EXACT_TOKEN_TYPES")])))) (Heap.accountedOkI (Shared.heap (Shared.mk (hd.heap_318 (World.params v0)) (@Array.mk.{0} GenState []) (Drawn.mk 0 0 0 0) (nat_lit 888) v1)) (importedModules (Module.body (Program.main ((OpenRow.toRowW (OpenLaw.row Challenge.rw_il0204_01))).1))))) (Heap.isNs (Shared.heap (Shared.mk (hd.heap_318 (World.params v0)) (@Array.mk.{0} GenState []) (Drawn.mk 0 0 0 0) (nat_lit 888) v1)) mainGlobals)) (Heap.isNs (Shared.heap (Shared.mk (hd.heap_318 (World.params v0)) (@Array.mk.{0} GenState []) (Drawn.mk 0 0 0 0) (nat_lit 888) v1)) builtinsNs)) (tablesOk hd.view_39 (Shared.heap (Shared.mk (hd.heap_318 (World.params v0)) (@Array.mk.{0} GenState []) (Drawn.mk 0 0 0 0) (nat_lit 888) v1)))) ((fun (v2 : Shared) => (Bool.and (xlAt hd.view_39 [] v2) (recOk (RowW.records (OpenRow.toRowW (OpenLaw.row Challenge.rw_il0204_01))) v2))) (Shared.mk (hd.heap_318 (World.params v0)) (@Array.mk.{0} GenState []) (Drawn.mk 0 0 0 0) (nat_lit 888) v1))) (@ite.{1} Bool (Bool.true = Bool.true) (instDecidableEqBool Bool.true Bool.true) (@BEq.beq.{0} Nat (@instBEqOfDecidableEq.{0} Nat instDecidableEqNat) (@Array.size.{0} GenState (Shared.gens (Shared.mk (hd.heap_318 (World.params v0)) (@Array.mk.{0} GenState []) (Drawn.mk 0 0 0 0) (nat_lit 888) v1))) 0) (Bool.not (leftWithCleanup (Shared.gens (Shared.mk (hd.heap_318 (World.params v0)) (@Array.mk.{0} GenState []) (Drawn.mk 0 0 0 0) (nat_lit 888) v1)))))), ((tabsOk hd.view_39 (Shared.mk (hd.heap_318 (World.params v0)) (@Array.mk.{0} GenState []) (Drawn.mk 0 0 0 0) (nat_lit 888) v1)), ((pinSeenD hd.view_39 (drecsOf hd.view_39) (Shared.mk (hd.heap_318 (World.params v0)) (@Array.mk.{0} GenState []) (Drawn.mk 0 0 0 0) (nat_lit 888) v1)), ((plainSeenE hd.view_39 (looseW hd.view_39 [(Str.ofString "locale_encoding_alias"), (Str.ofString "EXACT_TOKEN_TYPES")]) (Shared.mk (hd.heap_318 (World.params v0)) (@Array.mk.{0} GenState []) (Drawn.mk 0 0 0 0) (nat_lit 888) v1)), ((plainSeenD hd.view_39 [(Str.ofString "locale_encoding_alias"), (Str.ofString "EXACT_TOKEN_TYPES")] (Shared.mk (hd.heap_318 (World.params v0)) (@Array.mk.{0} GenState []) (Drawn.mk 0 0 0 0) (nat_lit 888) v1)), ((wideSeen hd.view_39 (Shared.mk (hd.heap_318 (World.params v0)) (@Array.mk.{0} GenState []) (Drawn.mk 0 0 0 0) (nat_lit 888) v1)), (clsSeenW hd.view_39 [(Str.ofString "locale_encoding_alias"), (Str.ofString "EXACT_TOKEN_TYPES")] (Shared.mk (hd.heap_318 (World.params v0)) (@Array.mk.{0} GenState []) (Drawn.mk 0 0 0 0) (nat_lit 888) v1)))))))) = (Bool.true, (Bool.true, ((pinGoodD (drecsOf hd.view_39)), ((plainGoodE hd.view_39 (looseW hd.view_39 [(Str.ofString "locale_encoding_alias"), (Str.ofString "EXACT_TOKEN_TYPES")])), ((plainGoodD hd.view_39 [(Str.ofString "locale_encoding_alias"), (Str.ofString "EXACT_TOKEN_TYPES")]), ((wideGood hd.view_39), (clsGoodW hd.view_39 [(Str.ofString "locale_encoding_alias"), (Str.ofString "EXACT_TOKEN_TYPES")])))))))))) := (fun (v0 : World) => (fun (v1 : OsState) => (looks_pair ((fun (v2 : World) => (fun (v3 : OsState) => (congrFun (hd.p_330 v2) v3))) v0 v1) (hd.p_347 v0 v1))))
theorem hd.p_349 : ((v0 : World) → ((v1 : OsState) → (((Heap.bltView (Shared.heap (Shared.mk (hd.heap_318 (World.params v0)) (@Array.mk.{0} GenState []) (Drawn.mk 0 0 0 0) (nat_lit 888) v1))), ((Bool.and (Bool.and (Bool.and (Bool.and (Bool.and (Bool.and (Heap.keysOk (Shared.heap (Shared.mk (hd.heap_318 (World.params v0)) (@Array.mk.{0} GenState []) (Drawn.mk 0 0 0 0) (nat_lit 888) v1)) (looseW hd.view_39 [(Str.ofString "locale_encoding_alias"), (Str.ofString "EXACT_TOKEN_TYPES")]) (@List.map.{0, 0} DefRec Str (fun (v2 : DefRec) => (DefRec.name v2)) (recsOf hd.view_39)) (@List.map.{0, 0} (Prod.{0, 0} Str PyData) Str (fun (v2 : (Prod.{0, 0} Str PyData)) => (@Prod.fst.{0, 0} Str PyData v2)) (litsOf hd.view_39)) (@List.map.{0, 0} ClsRec Str (fun (v2 : ClsRec) => (ClsRec.name v2)) (clssOf hd.view_39 (looseW hd.view_39 [(Str.ofString "locale_encoding_alias"), (Str.ofString "EXACT_TOKEN_TYPES")])))) (Heap.accountedOkI (Shared.heap (Shared.mk (hd.heap_318 (World.params v0)) (@Array.mk.{0} GenState []) (Drawn.mk 0 0 0 0) (nat_lit 888) v1)) (importedModules (Module.body (Program.main ((OpenRow.toRowW (OpenLaw.row Challenge.rw_il0204_01))).1))))) (Heap.isNs (Shared.heap (Shared.mk (hd.heap_318 (World.params v0)) (@Array.mk.{0} GenState []) (Drawn.mk 0 0 0 0) (nat_lit 888) v1)) mainGlobals)) (Heap.isNs (Shared.heap (Shared.mk (hd.heap_318 (World.params v0)) (@Array.mk.{0} GenState []) (Drawn.mk 0 0 0 0) (nat_lit 888) v1)) builtinsNs)) (tablesOk hd.view_39 (Shared.heap (Shared.mk (hd.heap_318 (World.params v0)) (@Array.mk.{0} GenState []) (Drawn.mk 0 0 0 0) (nat_lit 888) v1)))) ((fun (v2 : Shared) => (Bool.and (xlAt hd.view_39 [] v2) (recOk (RowW.records (OpenRow.toRowW (OpenLaw.row Challenge.rw_il0204_01))) v2))) (Shared.mk (hd.heap_318 (World.params v0)) (@Array.mk.{0} GenState []) (Drawn.mk 0 0 0 0) (nat_lit 888) v1))) (@ite.{1} Bool (Bool.true = Bool.true) (instDecidableEqBool Bool.true Bool.true) (@BEq.beq.{0} Nat (@instBEqOfDecidableEq.{0} Nat instDecidableEqNat) (@Array.size.{0} GenState (Shared.gens (Shared.mk (hd.heap_318 (World.params v0)) (@Array.mk.{0} GenState []) (Drawn.mk 0 0 0 0) (nat_lit 888) v1))) 0) (Bool.not (leftWithCleanup (Shared.gens (Shared.mk (hd.heap_318 (World.params v0)) (@Array.mk.{0} GenState []) (Drawn.mk 0 0 0 0) (nat_lit 888) v1)))))), ((tabsOk hd.view_39 (Shared.mk (hd.heap_318 (World.params v0)) (@Array.mk.{0} GenState []) (Drawn.mk 0 0 0 0) (nat_lit 888) v1)), ((pinSeenD hd.view_39 (drecsOf hd.view_39) (Shared.mk (hd.heap_318 (World.params v0)) (@Array.mk.{0} GenState []) (Drawn.mk 0 0 0 0) (nat_lit 888) v1)), ((plainSeenE hd.view_39 (looseW hd.view_39 [(Str.ofString "locale_encoding_alias"), (Str.ofString "EXACT_TOKEN_TYPES")]) (Shared.mk (hd.heap_318 (World.params v0)) (@Array.mk.{0} GenState []) (Drawn.mk 0 0 0 0) (nat_lit 888) v1)), ((plainSeenD hd.view_39 [(Str.ofString "locale_encoding_alias"), (Str.ofString "EXACT_TOKEN_TYPES")] (Shared.mk (hd.heap_318 (World.params v0)) (@Array.mk.{0} GenState []) (Drawn.mk 0 0 0 0) (nat_lit 888) v1)), ((wideSeen hd.view_39 (Shared.mk (hd.heap_318 (World.params v0)) (@Array.mk.{0} GenState []) (Drawn.mk 0 0 0 0) (nat_lit 888) v1)), (clsSeenW hd.view_39 [(Str.ofString "locale_encoding_alias"), (Str.ofString "EXACT_TOKEN_TYPES")] (Shared.mk (hd.heap_318 (World.params v0)) (@Array.mk.{0} GenState []) (Drawn.mk 0 0 0 0) (nat_lit 888) v1))))))))) = (bltViewBooted, (Bool.true, (Bool.true, ((pinGoodD (drecsOf hd.view_39)), ((plainGoodE hd.view_39 (looseW hd.view_39 [(Str.ofString "locale_encoding_alias"), (Str.ofString "EXACT_TOKEN_TYPES")])), ((plainGoodD hd.view_39 [(Str.ofString "locale_encoding_alias"), (Str.ofString "EXACT_TOKEN_TYPES")]), ((wideGood hd.view_39), (clsGoodW hd.view_39 [(Str.ofString "locale_encoding_alias"), (Str.ofString "EXACT_TOKEN_TYPES")]))))))))))) := (fun (v0 : World) => (fun (v1 : OsState) => (looks_pair ((fun (v2 : World) => (fun (v3 : OsState) => (congrFun (hd.p_328 v2) v3))) v0 v1) (hd.p_348 v0 v1))))
theorem hd.p_350 : ((v0 : World) → ((v1 : OsState) → ((openSeen hd.view_39 [(Str.ofString "locale_encoding_alias"), (Str.ofString "EXACT_TOKEN_TYPES")] (importedModules (Module.body (Program.main ((OpenRow.toRowW (OpenLaw.row Challenge.rw_il0204_01))).1))) (fun (v2 : Shared) => (Bool.and (xlAt hd.view_39 [] v2) (recOk (RowW.records (OpenRow.toRowW (OpenLaw.row Challenge.rw_il0204_01))) v2))) Bool.true (Shared.mk (hd.heap_318 (World.params v0)) (@Array.mk.{0} GenState []) (Drawn.mk 0 0 0 0) (nat_lit 888) v1)) = (openGood hd.view_39 [(Str.ofString "locale_encoding_alias"), (Str.ofString "EXACT_TOKEN_TYPES")])))) := (fun (v0 : World) => (fun (v1 : OsState) => (looks_pair ((fun (v2 : World) => (fun (v3 : OsState) => (congrFun (hd.p_327 v2) v3))) v0 v1) (hd.p_349 v0 v1))))
theorem hd.p_352 : ((v0 : World) → ((fun (v1 : OsState) => (Hook.obs (kHook hd.heap_39 ((nat_lit 2) :: (nat_lit 3) :: (nat_lit 6) :: (nat_lit 15) :: (nat_lit 17) :: (nat_lit 18) :: (nat_lit 20) :: (nat_lit 21) :: (nat_lit 22) :: (nat_lit 24) :: (nat_lit 25) :: (nat_lit 27) :: (nat_lit 28) :: (nat_lit 29) :: (nat_lit 31) :: (nat_lit 32) :: (nat_lit 34) :: (nat_lit 35) :: (nat_lit 36) :: (nat_lit 38) :: (nat_lit 39) :: (nat_lit 41) :: (nat_lit 42) :: (nat_lit 43) :: (nat_lit 233) :: (nat_lit 236) :: (nat_lit 239) :: (nat_lit 240) :: (nat_lit 241) :: (nat_lit 243) :: (nat_lit 244) :: (nat_lit 246) :: (nat_lit 247) :: (nat_lit 248) :: (nat_lit 250) :: (nat_lit 251) :: (nat_lit 253) :: (nat_lit 254) :: (nat_lit 255) :: (nat_lit 258) :: (nat_lit 259) :: (nat_lit 260) :: (nat_lit 262) :: (nat_lit 263) :: (nat_lit 265) :: (nat_lit 266) :: (nat_lit 267) :: (nat_lit 270) :: (nat_lit 271) :: []) (fun (v2 : Params) => (show (((nat_lit 2) :: (nat_lit 3) :: (nat_lit 6) :: (nat_lit 15) :: (nat_lit 17) :: (nat_lit 18) :: (nat_lit 20) :: (nat_lit 21) :: (nat_lit 22) :: (nat_lit 24) :: (nat_lit 25) :: (nat_lit 27) :: (nat_lit 28) :: (nat_lit 29) :: (nat_lit 31) :: (nat_lit 32) :: (nat_lit 34) :: (nat_lit 35) :: (nat_lit 36) :: (nat_lit 38) :: (nat_lit 39) :: (nat_lit 41) :: (nat_lit 42) :: (nat_lit 43) :: (nat_lit 233) :: (nat_lit 236) :: (nat_lit 239) :: (nat_lit 240) :: (nat_lit 241) :: (nat_lit 243) :: (nat_lit 244) :: (nat_lit 246) :: (nat_lit 247) :: (nat_lit 248) :: (nat_lit 250) :: (nat_lit 251) :: (nat_lit 253) :: (nat_lit 254) :: (nat_lit 255) :: (nat_lit 258) :: (nat_lit 259) :: (nat_lit 260) :: (nat_lit 262) :: (nat_lit 263) :: (nat_lit 265) :: (nat_lit 266) :: (nat_lit 267) :: (nat_lit 270) :: (nat_lit 271) :: []) = (@List.map.{0, 0} (Prod.{0, 0} Addr Obj) Addr (fun (v3 : (Prod.{0, 0} Addr Obj)) => (@Prod.fst.{0, 0} Addr Obj v3)) (hd.heap_39 v2))) by kernel_rfl))) (Shared.mk (hd.heap_318 (World.params v0)) (@Array.mk.{0} GenState []) (Drawn.mk 0 0 0 0) (nat_lit 888) v1))) = (fun (v1 : OsState) => (Hook.val (kHook hd.heap_39 ((nat_lit 2) :: (nat_lit 3) :: (nat_lit 6) :: (nat_lit 15) :: (nat_lit 17) :: (nat_lit 18) :: (nat_lit 20) :: (nat_lit 21) :: (nat_lit 22) :: (nat_lit 24) :: (nat_lit 25) :: (nat_lit 27) :: (nat_lit 28) :: (nat_lit 29) :: (nat_lit 31) :: (nat_lit 32) :: (nat_lit 34) :: (nat_lit 35) :: (nat_lit 36) :: (nat_lit 38) :: (nat_lit 39) :: (nat_lit 41) :: (nat_lit 42) :: (nat_lit 43) :: (nat_lit 233) :: (nat_lit 236) :: (nat_lit 239) :: (nat_lit 240) :: (nat_lit 241) :: (nat_lit 243) :: (nat_lit 244) :: (nat_lit 246) :: (nat_lit 247) :: (nat_lit 248) :: (nat_lit 250) :: (nat_lit 251) :: (nat_lit 253) :: (nat_lit 254) :: (nat_lit 255) :: (nat_lit 258) :: (nat_lit 259) :: (nat_lit 260) :: (nat_lit 262) :: (nat_lit 263) :: (nat_lit 265) :: (nat_lit 266) :: (nat_lit 267) :: (nat_lit 270) :: (nat_lit 271) :: []) (fun (v2 : Params) => (show (((nat_lit 2) :: (nat_lit 3) :: (nat_lit 6) :: (nat_lit 15) :: (nat_lit 17) :: (nat_lit 18) :: (nat_lit 20) :: (nat_lit 21) :: (nat_lit 22) :: (nat_lit 24) :: (nat_lit 25) :: (nat_lit 27) :: (nat_lit 28) :: (nat_lit 29) :: (nat_lit 31) :: (nat_lit 32) :: (nat_lit 34) :: (nat_lit 35) :: (nat_lit 36) :: (nat_lit 38) :: (nat_lit 39) :: (nat_lit 41) :: (nat_lit 42) :: (nat_lit 43) :: (nat_lit 233) :: (nat_lit 236) :: (nat_lit 239) :: (nat_lit 240) :: (nat_lit 241) :: (nat_lit 243) :: (nat_lit 244) :: (nat_lit 246) :: (nat_lit 247) :: (nat_lit 248) :: (nat_lit 250) :: (nat_lit 251) :: (nat_lit 253) :: (nat_lit 254) :: (nat_lit 255) :: (nat_lit 258) :: (nat_lit 259) :: (nat_lit 260) :: (nat_lit 262) :: (nat_lit 263) :: (nat_lit 265) :: (nat_lit 266) :: (nat_lit 267) :: (nat_lit 270) :: (nat_lit 271) :: []) = (@List.map.{0, 0} (Prod.{0, 0} Addr Obj) Addr (fun (v3 : (Prod.{0, 0} Addr Obj)) => (@Prod.fst.{0, 0} Addr Obj v3)) (hd.heap_39 v2))) by kernel_rfl))) v0)))) := by
  intro v0
  kernel_rfl
theorem hd.p_353 : ((v0 : World) → ((v1 : OsState) → (((openSeen hd.view_39 [(Str.ofString "locale_encoding_alias"), (Str.ofString "EXACT_TOKEN_TYPES")] (importedModules (Module.body (Program.main ((OpenRow.toRowW (OpenLaw.row Challenge.rw_il0204_01))).1))) (fun (v2 : Shared) => (Bool.and (xlAt hd.view_39 [] v2) (recOk (RowW.records (OpenRow.toRowW (OpenLaw.row Challenge.rw_il0204_01))) v2))) Bool.true (Shared.mk (hd.heap_318 (World.params v0)) (@Array.mk.{0} GenState []) (Drawn.mk 0 0 0 0) (nat_lit 888) v1)), (Hook.obs (kHook hd.heap_39 ((nat_lit 2) :: (nat_lit 3) :: (nat_lit 6) :: (nat_lit 15) :: (nat_lit 17) :: (nat_lit 18) :: (nat_lit 20) :: (nat_lit 21) :: (nat_lit 22) :: (nat_lit 24) :: (nat_lit 25) :: (nat_lit 27) :: (nat_lit 28) :: (nat_lit 29) :: (nat_lit 31) :: (nat_lit 32) :: (nat_lit 34) :: (nat_lit 35) :: (nat_lit 36) :: (nat_lit 38) :: (nat_lit 39) :: (nat_lit 41) :: (nat_lit 42) :: (nat_lit 43) :: (nat_lit 233) :: (nat_lit 236) :: (nat_lit 239) :: (nat_lit 240) :: (nat_lit 241) :: (nat_lit 243) :: (nat_lit 244) :: (nat_lit 246) :: (nat_lit 247) :: (nat_lit 248) :: (nat_lit 250) :: (nat_lit 251) :: (nat_lit 253) :: (nat_lit 254) :: (nat_lit 255) :: (nat_lit 258) :: (nat_lit 259) :: (nat_lit 260) :: (nat_lit 262) :: (nat_lit 263) :: (nat_lit 265) :: (nat_lit 266) :: (nat_lit 267) :: (nat_lit 270) :: (nat_lit 271) :: []) (fun (v2 : Params) => (show (((nat_lit 2) :: (nat_lit 3) :: (nat_lit 6) :: (nat_lit 15) :: (nat_lit 17) :: (nat_lit 18) :: (nat_lit 20) :: (nat_lit 21) :: (nat_lit 22) :: (nat_lit 24) :: (nat_lit 25) :: (nat_lit 27) :: (nat_lit 28) :: (nat_lit 29) :: (nat_lit 31) :: (nat_lit 32) :: (nat_lit 34) :: (nat_lit 35) :: (nat_lit 36) :: (nat_lit 38) :: (nat_lit 39) :: (nat_lit 41) :: (nat_lit 42) :: (nat_lit 43) :: (nat_lit 233) :: (nat_lit 236) :: (nat_lit 239) :: (nat_lit 240) :: (nat_lit 241) :: (nat_lit 243) :: (nat_lit 244) :: (nat_lit 246) :: (nat_lit 247) :: (nat_lit 248) :: (nat_lit 250) :: (nat_lit 251) :: (nat_lit 253) :: (nat_lit 254) :: (nat_lit 255) :: (nat_lit 258) :: (nat_lit 259) :: (nat_lit 260) :: (nat_lit 262) :: (nat_lit 263) :: (nat_lit 265) :: (nat_lit 266) :: (nat_lit 267) :: (nat_lit 270) :: (nat_lit 271) :: []) = (@List.map.{0, 0} (Prod.{0, 0} Addr Obj) Addr (fun (v3 : (Prod.{0, 0} Addr Obj)) => (@Prod.fst.{0, 0} Addr Obj v3)) (hd.heap_39 v2))) by kernel_rfl))) (Shared.mk (hd.heap_318 (World.params v0)) (@Array.mk.{0} GenState []) (Drawn.mk 0 0 0 0) (nat_lit 888) v1))) = ((openGood hd.view_39 [(Str.ofString "locale_encoding_alias"), (Str.ofString "EXACT_TOKEN_TYPES")]), (Hook.val (kHook hd.heap_39 ((nat_lit 2) :: (nat_lit 3) :: (nat_lit 6) :: (nat_lit 15) :: (nat_lit 17) :: (nat_lit 18) :: (nat_lit 20) :: (nat_lit 21) :: (nat_lit 22) :: (nat_lit 24) :: (nat_lit 25) :: (nat_lit 27) :: (nat_lit 28) :: (nat_lit 29) :: (nat_lit 31) :: (nat_lit 32) :: (nat_lit 34) :: (nat_lit 35) :: (nat_lit 36) :: (nat_lit 38) :: (nat_lit 39) :: (nat_lit 41) :: (nat_lit 42) :: (nat_lit 43) :: (nat_lit 233) :: (nat_lit 236) :: (nat_lit 239) :: (nat_lit 240) :: (nat_lit 241) :: (nat_lit 243) :: (nat_lit 244) :: (nat_lit 246) :: (nat_lit 247) :: (nat_lit 248) :: (nat_lit 250) :: (nat_lit 251) :: (nat_lit 253) :: (nat_lit 254) :: (nat_lit 255) :: (nat_lit 258) :: (nat_lit 259) :: (nat_lit 260) :: (nat_lit 262) :: (nat_lit 263) :: (nat_lit 265) :: (nat_lit 266) :: (nat_lit 267) :: (nat_lit 270) :: (nat_lit 271) :: []) (fun (v2 : Params) => (show (((nat_lit 2) :: (nat_lit 3) :: (nat_lit 6) :: (nat_lit 15) :: (nat_lit 17) :: (nat_lit 18) :: (nat_lit 20) :: (nat_lit 21) :: (nat_lit 22) :: (nat_lit 24) :: (nat_lit 25) :: (nat_lit 27) :: (nat_lit 28) :: (nat_lit 29) :: (nat_lit 31) :: (nat_lit 32) :: (nat_lit 34) :: (nat_lit 35) :: (nat_lit 36) :: (nat_lit 38) :: (nat_lit 39) :: (nat_lit 41) :: (nat_lit 42) :: (nat_lit 43) :: (nat_lit 233) :: (nat_lit 236) :: (nat_lit 239) :: (nat_lit 240) :: (nat_lit 241) :: (nat_lit 243) :: (nat_lit 244) :: (nat_lit 246) :: (nat_lit 247) :: (nat_lit 248) :: (nat_lit 250) :: (nat_lit 251) :: (nat_lit 253) :: (nat_lit 254) :: (nat_lit 255) :: (nat_lit 258) :: (nat_lit 259) :: (nat_lit 260) :: (nat_lit 262) :: (nat_lit 263) :: (nat_lit 265) :: (nat_lit 266) :: (nat_lit 267) :: (nat_lit 270) :: (nat_lit 271) :: []) = (@List.map.{0, 0} (Prod.{0, 0} Addr Obj) Addr (fun (v3 : (Prod.{0, 0} Addr Obj)) => (@Prod.fst.{0, 0} Addr Obj v3)) (hd.heap_39 v2))) by kernel_rfl))) v0))))) := (fun (v0 : World) => (fun (v1 : OsState) => (looks_pair (hd.p_350 v0 v1) ((fun (v2 : World) => (fun (v3 : OsState) => (congrFun (hd.p_352 v2) v3))) v0 v1))))
theorem hd.p_looks : ((v0 : World) → ((v1 : OsState) → (((Bool.and (Bool.and (Bool.and (staticsOk (importedModules (Module.body (Program.main ((OpenRow.toRowW (OpenLaw.row Challenge.rw_il0204_01))).1))) (boot_heap (World.params v0)) (hd.heap_318 (World.params v0))) (namesBound ((OpenRow.toRowW (OpenLaw.row Challenge.rw_il0204_01))).1 (hd.heap_318 (World.params v0)))) (gensDone (Shared.mk (hd.heap_318 (World.params v0)) (@Array.mk.{0} GenState []) (Drawn.mk 0 0 0 0) (nat_lit 888) v1))) (laidKept (boot_heap (World.params v0)) (hd.heap_318 (World.params v0)))), ((openSeen hd.view_39 [(Str.ofString "locale_encoding_alias"), (Str.ofString "EXACT_TOKEN_TYPES")] (importedModules (Module.body (Program.main ((OpenRow.toRowW (OpenLaw.row Challenge.rw_il0204_01))).1))) (fun (v2 : Shared) => (Bool.and (xlAt hd.view_39 [] v2) (recOk (RowW.records (OpenRow.toRowW (OpenLaw.row Challenge.rw_il0204_01))) v2))) Bool.true (Shared.mk (hd.heap_318 (World.params v0)) (@Array.mk.{0} GenState []) (Drawn.mk 0 0 0 0) (nat_lit 888) v1)), (Hook.obs (kHook hd.heap_39 ((nat_lit 2) :: (nat_lit 3) :: (nat_lit 6) :: (nat_lit 15) :: (nat_lit 17) :: (nat_lit 18) :: (nat_lit 20) :: (nat_lit 21) :: (nat_lit 22) :: (nat_lit 24) :: (nat_lit 25) :: (nat_lit 27) :: (nat_lit 28) :: (nat_lit 29) :: (nat_lit 31) :: (nat_lit 32) :: (nat_lit 34) :: (nat_lit 35) :: (nat_lit 36) :: (nat_lit 38) :: (nat_lit 39) :: (nat_lit 41) :: (nat_lit 42) :: (nat_lit 43) :: (nat_lit 233) :: (nat_lit 236) :: (nat_lit 239) :: (nat_lit 240) :: (nat_lit 241) :: (nat_lit 243) :: (nat_lit 244) :: (nat_lit 246) :: (nat_lit 247) :: (nat_lit 248) :: (nat_lit 250) :: (nat_lit 251) :: (nat_lit 253) :: (nat_lit 254) :: (nat_lit 255) :: (nat_lit 258) :: (nat_lit 259) :: (nat_lit 260) :: (nat_lit 262) :: (nat_lit 263) :: (nat_lit 265) :: (nat_lit 266) :: (nat_lit 267) :: (nat_lit 270) :: (nat_lit 271) :: []) (fun (v2 : Params) => (show (((nat_lit 2) :: (nat_lit 3) :: (nat_lit 6) :: (nat_lit 15) :: (nat_lit 17) :: (nat_lit 18) :: (nat_lit 20) :: (nat_lit 21) :: (nat_lit 22) :: (nat_lit 24) :: (nat_lit 25) :: (nat_lit 27) :: (nat_lit 28) :: (nat_lit 29) :: (nat_lit 31) :: (nat_lit 32) :: (nat_lit 34) :: (nat_lit 35) :: (nat_lit 36) :: (nat_lit 38) :: (nat_lit 39) :: (nat_lit 41) :: (nat_lit 42) :: (nat_lit 43) :: (nat_lit 233) :: (nat_lit 236) :: (nat_lit 239) :: (nat_lit 240) :: (nat_lit 241) :: (nat_lit 243) :: (nat_lit 244) :: (nat_lit 246) :: (nat_lit 247) :: (nat_lit 248) :: (nat_lit 250) :: (nat_lit 251) :: (nat_lit 253) :: (nat_lit 254) :: (nat_lit 255) :: (nat_lit 258) :: (nat_lit 259) :: (nat_lit 260) :: (nat_lit 262) :: (nat_lit 263) :: (nat_lit 265) :: (nat_lit 266) :: (nat_lit 267) :: (nat_lit 270) :: (nat_lit 271) :: []) = (@List.map.{0, 0} (Prod.{0, 0} Addr Obj) Addr (fun (v3 : (Prod.{0, 0} Addr Obj)) => (@Prod.fst.{0, 0} Addr Obj v3)) (hd.heap_39 v2))) by kernel_rfl))) (Shared.mk (hd.heap_318 (World.params v0)) (@Array.mk.{0} GenState []) (Drawn.mk 0 0 0 0) (nat_lit 888) v1)))) = (Bool.true, ((openGood hd.view_39 [(Str.ofString "locale_encoding_alias"), (Str.ofString "EXACT_TOKEN_TYPES")]), (Hook.val (kHook hd.heap_39 ((nat_lit 2) :: (nat_lit 3) :: (nat_lit 6) :: (nat_lit 15) :: (nat_lit 17) :: (nat_lit 18) :: (nat_lit 20) :: (nat_lit 21) :: (nat_lit 22) :: (nat_lit 24) :: (nat_lit 25) :: (nat_lit 27) :: (nat_lit 28) :: (nat_lit 29) :: (nat_lit 31) :: (nat_lit 32) :: (nat_lit 34) :: (nat_lit 35) :: (nat_lit 36) :: (nat_lit 38) :: (nat_lit 39) :: (nat_lit 41) :: (nat_lit 42) :: (nat_lit 43) :: (nat_lit 233) :: (nat_lit 236) :: (nat_lit 239) :: (nat_lit 240) :: (nat_lit 241) :: (nat_lit 243) :: (nat_lit 244) :: (nat_lit 246) :: (nat_lit 247) :: (nat_lit 248) :: (nat_lit 250) :: (nat_lit 251) :: (nat_lit 253) :: (nat_lit 254) :: (nat_lit 255) :: (nat_lit 258) :: (nat_lit 259) :: (nat_lit 260) :: (nat_lit 262) :: (nat_lit 263) :: (nat_lit 265) :: (nat_lit 266) :: (nat_lit 267) :: (nat_lit 270) :: (nat_lit 271) :: []) (fun (v2 : Params) => (show (((nat_lit 2) :: (nat_lit 3) :: (nat_lit 6) :: (nat_lit 15) :: (nat_lit 17) :: (nat_lit 18) :: (nat_lit 20) :: (nat_lit 21) :: (nat_lit 22) :: (nat_lit 24) :: (nat_lit 25) :: (nat_lit 27) :: (nat_lit 28) :: (nat_lit 29) :: (nat_lit 31) :: (nat_lit 32) :: (nat_lit 34) :: (nat_lit 35) :: (nat_lit 36) :: (nat_lit 38) :: (nat_lit 39) :: (nat_lit 41) :: (nat_lit 42) :: (nat_lit 43) :: (nat_lit 233) :: (nat_lit 236) :: (nat_lit 239) :: (nat_lit 240) :: (nat_lit 241) :: (nat_lit 243) :: (nat_lit 244) :: (nat_lit 246) :: (nat_lit 247) :: (nat_lit 248) :: (nat_lit 250) :: (nat_lit 251) :: (nat_lit 253) :: (nat_lit 254) :: (nat_lit 255) :: (nat_lit 258) :: (nat_lit 259) :: (nat_lit 260) :: (nat_lit 262) :: (nat_lit 263) :: (nat_lit 265) :: (nat_lit 266) :: (nat_lit 267) :: (nat_lit 270) :: (nat_lit 271) :: []) = (@List.map.{0, 0} (Prod.{0, 0} Addr Obj) Addr (fun (v3 : (Prod.{0, 0} Addr Obj)) => (@Prod.fst.{0, 0} Addr Obj v3)) (hd.heap_39 v2))) by kernel_rfl))) v0)))))) := (fun (v0 : World) => (fun (v1 : OsState) => (looks_pair ((fun (v2 : World) => (fun (v3 : OsState) => (congrFun (hd.p_325 v2) v3))) v0 v1) (hd.p_353 v0 v1))))
theorem hd.p_ok : ((Bool.and (Bool.and (chainsOk hd.view_39) (opensWell (RowW.prog (OpenRow.toRowW (OpenLaw.row Challenge.rw_il0204_01))))) (Bool.and (frees (OpenRow.toRowW (OpenLaw.row Challenge.rw_il0204_01))) (@List.isEmpty.{0} Nat (RowW.within (OpenRow.toRowW (OpenLaw.row Challenge.rw_il0204_01)))))) = Bool.true) := by decide +kernel
theorem hd.p_whole : ((Program.tablesWhole (RowW.prog (OpenRow.toRowW (OpenLaw.row Challenge.rw_il0204_01)))) = Bool.true) := by decide +kernel
theorem hd.said : OpenLaw.wellSaid PySem.Challenge.rw_il0204_01 = true := by
  rewrite [PySem.W.Fast.te9446332074065402090]
  kernel_rfl
theorem hd.left : LeftO (OpenLaw.row PySem.Challenge.rw_il0204_01).prog hd.view_39 [Str.ofString "locale_encoding_alias", Str.ofString "EXACT_TOKEN_TYPES"] (fun s => xlAt hd.view_39 [] s && recOk (RowW.records (OpenRow.toRowW (OpenLaw.row PySem.Challenge.rw_il0204_01))) s) (Hook.obs (kHook hd.heap_39 [2, 3, 6, 15, 17, 18, 20, 21, 22, 24, 25, 27, 28, 29, 31, 32, 34, 35, 36, 38, 39, 41, 42, 43, 233, 236, 239, 240, 241, 243, 244, 246, 247, 248, 250, 251, 253, 254, 255, 258, 259, 260, 262, 263, 265, 266, 267, 270, 271] (fun _ => by kernel_rfl))) (Hook.val (kHook hd.heap_39 [2, 3, 6, 15, 17, 18, 20, 21, 22, 24, 25, 27, 28, 29, 31, 32, 34, 35, 36, 38, 39, 41, 42, 43, 233, 236, 239, 240, 241, 243, 244, 246, 247, 248, 250, 251, 253, 254, 255, 258, 259, 260, 262, 263, 265, 266, 267, 270, 271] (fun _ => by kernel_rfl))) 22488 :=
  LeftO.of_pieces (boot_open hd.p_opening (by decide) hd.p_fence) hd.p_size hd.p_run (by decide) (fun w => funext fun os => hd.p_looks w os)
end
abbrev Run := Str × Int
def runD (r : Run) : Dat := .list [.str r.1, .int r.2]
def runsD (rs : List Run) : Dat := .list (rs.map runD)
def runsOk (rs : List Run) : Prop := ∀ r ∈ rs, PyData.strOk r.1 = true
section
variable {news : List (Addr × Obj)} {v : Value} {rs : List Run} {r : Run} {vs : List Value}
theorem runs_inv (h : DatIn news v (runsD rs)) : ∃ a vs n, v = .ref a ∧ (a, W.listOf vs.toArray n) ∈ news ∧ DatAll news vs (rs.map runD) := by
  unfold runsD at h
  cases h with
  | list hm hr => exact ⟨_, _, _, rfl, hm, hr⟩
theorem run_inv (h : DatIn news v (runD r)) : ∃ a t u n, v = .ref a ∧ (a, W.listOf [Value.str r.1 t, Value.int r.2 u].toArray n) ∈ news := by
  unfold runD at h
  cases h with
  | list hm hr =>
    cases hr with
    | cons h1 hr =>
      cases h1
      cases hr with
      | cons h2 hr =>
        cases h2
        cases hr
        exact ⟨_, _, _, _, rfl, hm⟩
theorem run_in {a : Addr} {s : Str} {t u : Tok} {n : Nat} {c : Int} (hm : (a, W.listOf [Value.str s t, Value.int c u].toArray n) ∈ news) : DatIn news (.ref a) (runD (s, c)) :=
  .list hm (.cons (.str _ _) (.cons (.int _ _) .nil))
theorem runs_ok (h : runsOk rs) : ∀ d ∈ rs.map runD, kqdOk 8 d = true := by
  intro d hd
  obtain ⟨x, hx, rfl⟩ := List.mem_map.mp hd
  have := h x hx
  simp [runD, kqdOk, this]
theorem dat_snoc {ds : List Dat} {d : Dat} (h : DatAll news vs (ds ++ [d])) : ∃ us u, vs = us ++ [u] ∧ DatAll news us ds ∧ DatIn news u d := by
  induction ds generalizing vs with
  | nil =>
    cases h with
    | cons h r => cases r; exact ⟨[], _, rfl, .nil, h⟩
  | cons e ds ih =>
    cases h with
    | cons h r =>
      obtain ⟨us, u, rfl, h1, h2⟩ := ih r
      exact ⟨_ :: us, u, rfl, .cons h h1, h2⟩
theorem dat_cons {ds : List Dat} {d : Dat} (h : DatAll news vs (d :: ds)) : ∃ u us, vs = u :: us ∧ DatIn news u d ∧ DatAll news us ds := by
  cases h with
  | cons h r => exact ⟨_, _, rfl, h, r⟩
theorem dat_nil (h : DatAll news vs []) : vs = [] := by cases h; rfl
theorem dat_app {ds es : List Dat} (h : DatAll news vs (ds ++ es)) : ∃ us ws, vs = us ++ ws ∧ DatAll news us ds ∧ DatAll news ws es := by
  induction ds generalizing vs with
  | nil => exact ⟨[], vs, rfl, .nil, h⟩
  | cons e ds ih =>
    cases h with
    | cons h r =>
      obtain ⟨us, ws, rfl, h1, h2⟩ := ih r
      exact ⟨_ :: us, ws, rfl, .cons h h1, h2⟩
end
inductive RunsAll (news : List (Addr × Obj)) : List Value → List Run → Prop
  | nil : RunsAll news [] []
  | cons {a : Addr} {s : Str} {t u : Tok} {c : Int} {n : Nat} {vs : List Value} {rs : List Run} : (a, W.listOf [Value.str s t, Value.int c u].toArray n) ∈ news → RunsAll news vs rs → RunsAll news (.ref a :: vs) ((s, c) :: rs)
inductive RunsIn (news : List (Addr × Obj)) : Value → List Run → Prop
  | mk {a : Addr} {n : Nat} {vs : List Value} {rs : List Run} : (a, W.listOf vs.toArray n) ∈ news → RunsAll news vs rs → RunsIn news (.ref a) rs
section
variable {news news' : List (Addr × Obj)} {v : Value} {rs qs : List Run} {r : Run} {vs ws : List Value}
theorem RunsAll.dat (h : RunsAll news vs rs) : DatAll news vs (rs.map runD) := by
  induction h with
  | nil => exact .nil
  | cons hm _ ih => exact .cons (run_in hm) ih
theorem RunsAll.of (h : DatAll news vs (rs.map runD)) : RunsAll news vs rs := by
  induction rs generalizing vs with
  | nil => obtain rfl := dat_nil h; exact .nil
  | cons r rs ih =>
    obtain ⟨u, us, rfl, h1, h2⟩ := dat_cons h
    obtain ⟨a, t, u, n, rfl, hm⟩ := run_inv h1
    exact .cons hm (ih h2)
theorem RunsIn.dat (h : RunsIn news v rs) : DatIn news v (runsD rs) := by
  cases h with
  | mk hm hr => exact .list hm hr.dat
theorem RunsIn.of (h : DatIn news v (runsD rs)) : RunsIn news v rs := by
  obtain ⟨a, vs, n, rfl, hm, hd⟩ := runs_inv h
  exact .mk hm (.of hd)
theorem RunsAll.mono (hs : ∀ p ∈ news, p ∈ news') (h : RunsAll news vs rs) : RunsAll news' vs rs := .of (h.dat.mono hs)
theorem RunsIn.mono (hs : ∀ p ∈ news, p ∈ news') (h : RunsIn news v rs) : RunsIn news' v rs := .of (h.dat.mono hs)
theorem RunsAll.append (h : RunsAll news vs rs) (k : RunsAll news ws qs) : RunsAll news (vs ++ ws) (rs ++ qs) := .of (by rw [List.map_append]; exact h.dat.append k.dat)
theorem RunsAll.length (h : RunsAll news vs rs) : vs.length = rs.length := by rw [h.dat.length, List.length_map]
theorem RunsAll.snoc (h : RunsAll news vs (rs ++ [r])) : ∃ us a t u n, vs = us ++ [.ref a] ∧ RunsAll news us rs ∧ (a, W.listOf [Value.str r.1 t, Value.int r.2 u].toArray n) ∈ news := by
  have h := h.dat
  rw [List.map_append] at h
  obtain ⟨us, u, rfl, h1, h2⟩ := dat_snoc h
  obtain ⟨a, t, u, n, rfl, hm⟩ := run_inv h2
  exact ⟨us, a, t, u, n, rfl, .of h1, hm⟩
theorem RunsAll.uncons (h : RunsAll news vs (r :: rs)) : ∃ us a t u n, vs = .ref a :: us ∧ RunsAll news us rs ∧ (a, W.listOf [Value.str r.1 t, Value.int r.2 u].toArray n) ∈ news := by
  cases h with
  | cons hm h => exact ⟨_, _, _, _, _, rfl, h, hm⟩
theorem RunsAll.split (h : RunsAll news vs (rs ++ qs)) : ∃ us ws, vs = us ++ ws ∧ RunsAll news us rs ∧ RunsAll news ws qs := by
  have h := h.dat
  rw [List.map_append] at h
  obtain ⟨us, ws, rfl, h1, h2⟩ := dat_app h
  exact ⟨us, ws, rfl, .of h1, .of h2⟩
theorem RunsAll.get (h : RunsAll news vs rs) {k : Nat} (hk : k < rs.length) : ∃ a t u n, vs[k]? = some (.ref a) ∧ (a, W.listOf [Value.str (rs[k]'hk).1 t, Value.int (rs[k]'hk).2 u].toArray n) ∈ news := by
  induction h generalizing k with
  | nil => exact absurd hk (Nat.not_lt_zero _)
  | cons hm _ ih =>
    cases k with
    | zero => exact ⟨_, _, _, _, rfl, hm⟩
    | succ k => simpa using ih (k := k) (by simpa using hk)
theorem RunsIn.inv (h : RunsIn news v rs) : ∃ a vs n, v = .ref a ∧ (a, W.listOf vs.toArray n) ∈ news ∧ RunsAll news vs rs := by
  cases h with
  | mk hm hr => exact ⟨_, _, _, rfl, hm, hr⟩
end
theorem runD_inj : ∀ {rs qs : List Run}, rs.map runD = qs.map runD ↔ rs = qs
  | [], [] => by simp
  | [], _ :: _ => by simp
  | _ :: _, [] => by simp
  | (a, b) :: rs, (c, d) :: qs => by simp [runD, runD_inj (rs := rs) (qs := qs)]
section
variable {prog : Program} {w : World} {A : Around} {E : Value → Shared → Prop} {s : Shared} {h₀ : Heap} {L a b : Addr} {m : Str → Option Value} {news : List (Addr × Obj)} {vs ws zs : List Value} {n k : Nat} {ds es : List Dat} {x : Value} {value slice : PySem.Expr} {Q : Value → Shared → Prop}
theorem my_ne {r : Bool} (N : News h₀ L s.heap news) (ma : (a, W.listOf vs.toArray n) ∈ news) (mb : (b, W.listOf ws.toArray k) ∈ news) (Da : DatAll news vs ds) (Db : DatAll news ws es)
    (ha : ∀ d ∈ ds, kqdOk 8 d = true) (hb : ∀ d ∈ es, kqdOk 8 d = true) (hu : A.units + 64 < cLine) (e : (ds ≠ es) ↔ r = true) (h : Q (.bool r) s) : wpAny (model prog w) A (compareOp .NotEq (.ref a) (.ref b)) Q E s := by
  refine kqd_ne N ma rfl rfl Da (fun _ h => h) mb rfl rfl Db (fun _ h => h) ha hb hu ?_
  cases r with
  | true => simpa [show ¬ (ds = es) from e.mpr rfl] using h
  | false => simpa [show ds = es from Classical.byContradiction fun q => by cases e.mp q] using h
theorem my_eq {r : Bool} (N : News h₀ L s.heap news) (ma : (a, W.listOf vs.toArray n) ∈ news) (mb : (b, W.listOf ws.toArray k) ∈ news) (Da : DatAll news vs ds) (Db : DatAll news ws es)
    (ha : ∀ d ∈ ds, kqdOk 8 d = true) (hb : ∀ d ∈ es, kqdOk 8 d = true) (hu : A.units + 64 < cLine) (e : (ds = es) ↔ r = true) (h : Q (.bool r) s) : wpAny (model prog w) A (compareOp .Eq (.ref a) (.ref b)) Q E s := by
  refine kqd_eq N ma rfl rfl Da (fun _ h => h) mb rfl rfl Db (fun _ h => h) ha hb hu ?_
  cases r with
  | true => simpa [show ds = es from e.mpr rfl] using h
  | false => simpa [show ¬ (ds = es) from fun q => by cases e.mp q] using h
theorem my_in {r : Bool} {d : Dat} (N : News h₀ L s.heap news) (ma : (a, W.listOf vs.toArray n) ∈ news) (Da : DatAll news vs ds) (Dx : DatIn news x d)
    (ha : ∀ d ∈ ds, kqdOk 8 d = true) (hd : kqdOk 8 d = true) (hu : A.units + 64 < cLine) (e : (d ∈ ds) ↔ r = true) (h : Q (.bool r) s) : wpAny (model prog w) A (compareOp .In x (.ref a)) Q E s := by
  refine kqd_isIn N ma rfl rfl Da (fun _ h => h) Dx (fun _ h => h) ha hd hu ?_
  cases r with
  | true => simpa [show d ∈ ds from e.mpr rfl] using h
  | false => simpa [show ¬ (d ∈ ds) from fun q => by cases e.mp q] using h
theorem ints_dat {ns : List Int} (h : IntsAre vs ns) : DatAll news vs (ns.map Dat.int) := by
  induction h with
  | nil => exact .nil
  | cons k t _ ih => exact .cons (.int k t) ih
theorem ints_ok (ns : List Int) : ∀ d ∈ ns.map Dat.int, kqdOk 8 d = true := by
  intro d hd
  obtain ⟨x, _, rfl⟩ := List.mem_map.mp hd
  rfl
theorem my_add (F : Fr h₀ L s.heap m) (N : News h₀ L s.heap news) (ma : (a, W.listOf vs.toArray n) ∈ news) (mb : (b, W.listOf ws.toArray k) ∈ news)
    (h : ∀ D h', Fr h₀ L h' m → News h₀ L h' ((D, W.listOf (vs ++ ws).toArray 0) :: news) → (∀ p ∈ news, p.1 < D) → Q (.ref D) { s with heap := h' })
    (hz : vs.length + ws.length ≤ sizeLine) : wpAny (model prog w) A (binaryOp .Add (.ref a) (.ref b)) Q E s :=
  add_lists F N (News.isList N ma) (News.isList N mb) (fun h' F' N' => h _ h' F' N' fun p hp => Heap.lt_size (N p hp).1) hz
theorem my_item {i : Int} {u : Tok} (N : News h₀ L s.heap news) (ma : (a, W.listOf vs.toArray n) ∈ news) (h0 : 0 ≤ i) (hfit : i < 2 ^ 63) (hx : vs[i.toNat]? = some x) (h : Q x s)
    (hs : subscripted slice false (.ref a) (.int i u) = operate [.ref a, .int i u] (getItem (.ref a) (.int i u)) := by with_unfolding_all rfl) :
    wpAny (model prog w) A (subscriptTail value slice (.ref a) (.int i u)) Q E s :=
  tail_any (News.isList N ma).typeIs slot_list_getitem.lookup (wpAny_getItem_list (News.isList N ma) h0 hfit (by simpa using hx) h) hs
theorem my_last {u : Tok} (N : News h₀ L s.heap news) (ma : (a, W.listOf (vs ++ [x]).toArray n) ∈ news) (h : Q x s)
    (hs : subscripted slice false (.ref a) (.int (-1) u) = operate [.ref a, .int (-1) u] (getItem (.ref a) (.int (-1) u)) := by with_unfolding_all rfl) :
    wpAny (model prog w) A (subscriptTail value slice (.ref a) (.int (-1) u)) Q E s :=
  tail_any (News.isList N ma).typeIs slot_list_getitem.lookup (wpAny_getItem_list_neg (News.isList N ma) (by decide) (by simp; omega) (by decide) (by simp; rw [show ((-1 : Int) + (↑vs.length + 1)).toNat = vs.length by omega]; simp) h) hs
theorem my_slice {vl vu : Value} {lo hi : Option Int} (F : Fr h₀ L s.heap m) (N : News h₀ L s.heap news) (ma : (a, W.listOf vs.toArray n) ∈ news) (pl : IsPart vl lo) (pu : IsPart vu hi) (e : kms_pick vs lo hi = zs)
    (h : ∀ D h', Fr h₀ L h' m → News h₀ L h' ((D, W.listOf zs.toArray 0) :: news) → (∀ p ∈ news, p.1 < D) → Q (.ref D) { s with heap := h' })
    (hs : subscripted slice false (.ref a) (.ref s.heap.objs.size) = operate [.ref s.heap.objs.size, .ref a] (getItem (.ref a) (.ref s.heap.objs.size))) (ht : ∀ r, letTemporaryGo value (.ref a) r = pure ()) (hz : vs.length ≤ sizeLine) :
    wpAny (model prog w) A (subscriptTail value slice (.ref a) (.ref s.heap.objs.size)) Q E { s with heap := s.heap.push { cls := .type "slice", data := .fields #[vl, vu, .none] } } :=
  kms_slice_lit F N (News.isList N ma) pl pu (by simpa using e) h hs ht (by simpa using hz)
theorem my_len (N : News h₀ L s.heap news) (ma : (a, W.listOf vs.toArray n) ∈ news) (hz : vs.length < 2 ^ 62) (h : ∀ t tk, Q (.int (vs.length : Int) t) { s with toks := tk }) : wpAny (model prog w) A (call (.builtin "len") [.ref a]) Q E s :=
  len_list (News.isList N ma) (by simp; omega) (by simpa using h _ _)
theorem my_lenS {y : Str} {t : Tok} (hz : y.length ≤ 1000000) (h : ∀ t tk, Q (.int (y.length : Int) t) { s with toks := tk }) : wpAny (model prog w) A (call (.builtin "len") [.str y t]) Q E s :=
  len_str (by omega) (h _ _)
theorem my_pop (F : Fr h₀ L s.heap m) {news' : List (Addr × Obj)} (N : News h₀ L s.heap news) (U : Upd a (W.listOf (vs ++ [x]).toArray n) (W.listOf vs.toArray (n + 1)) news news') (hz : (vs ++ [x]).length ≤ sizeLine)
    (h : ∀ h', Fr h₀ L h' m → News h₀ L h' news' → Q x { s with heap := h' }) : wpAny (model prog w) A (call (.builtin "list.pop") [.ref a]) Q E s :=
  kl_pop F N (p := vs) (y := x) (kpa_last x vs) U (by simpa using hz) h
theorem pick_init : kms_pick (vs ++ [x]) none (some (-1)) = vs := by
  simp [kms_pick, kms_lo, kms_hi]
theorem pick_from {us : List Value} : kms_pick (us ++ vs) (some (us.length : Int)) none = vs := by
  have h0 : ¬ ((us.length : Int) < 0) := by omega
  have : min us.length (us.length + vs.length) = us.length := by omega
  simp [kms_pick, kms_lo, kms_hi, h0, this]
theorem pick_dropLast : kms_pick vs none (some (-1)) = vs.dropLast := by
  simp [kms_pick, kms_lo, kms_hi, List.dropLast_eq_take]
theorem pick_tail : kms_pick (x :: vs) (some 1) none = vs := by
  have : min 1 (vs.length + 1) = 1 := by omega
  simp [kms_pick, kms_lo, kms_hi, this]
end
structure Ext (news nl tl : List (Addr × Obj)) : Prop where
  sub : ∀ p ∈ news ++ tl, p ∈ nl
  sup : ∀ p ∈ nl, p ∈ news ++ tl
  ord : ∀ q ∈ news, ∀ p ∈ tl, q.1 ≠ p.1
section
variable {news nl tl t1 t2 : List (Addr × Obj)} {D : Addr} {o : Obj}
theorem Ext.base : Ext news news [] := ⟨fun p h => by simpa using h, fun p h => by simpa using h, fun _ _ _ h => nomatch h⟩
theorem Ext.app (h : ∀ q ∈ news, ∀ p ∈ tl, q.1 ≠ p.1) : Ext news (news ++ tl) tl := ⟨fun _ h => h, fun _ h => h, h⟩
theorem Ext.cons (h : ∀ q ∈ news, q.1 ≠ D) (x : Ext news nl tl) : Ext news ((D, o) :: nl) ((D, o) :: tl) := by
  refine ⟨fun p hp => ?_, fun p hp => ?_, fun q hq p hp => ?_⟩
  · rcases List.mem_append.mp hp with hp | hp
    · exact .tail _ (x.sub p (List.mem_append_left _ hp))
    · rcases List.mem_cons.mp hp with rfl | hp
      · exact .head _
      · exact .tail _ (x.sub p (List.mem_append_right _ hp))
  · rcases List.mem_cons.mp hp with rfl | hp
    · exact List.mem_append_right _ (.head _)
    · rcases List.mem_append.mp (x.sup p hp) with hp | hp
      · exact List.mem_append_left _ hp
      · exact List.mem_append_right _ (.tail _ hp)
  · rcases List.mem_cons.mp hp with rfl | hp
    · exact h q hq
    · exact x.ord q hq p hp
theorem ord_app (h1 : ∀ q ∈ news, ∀ p ∈ t1, q.1 ≠ p.1) (h2 : ∀ q ∈ news, ∀ p ∈ t2, q.1 ≠ p.1) : ∀ q ∈ news, ∀ p ∈ t1 ++ t2, q.1 ≠ p.1 := by
  intro q hq p hp
  rcases List.mem_append.mp hp with hp | hp
  · exact h1 q hq p hp
  · exact h2 q hq p hp
end
theorem ord_of {news nl tl : List (Addr × Obj)} (h : ∀ q ∈ nl, ∀ p ∈ tl, q.1 ≠ p.1) (hs : ∀ q ∈ news, q ∈ nl) : ∀ q ∈ news, ∀ p ∈ tl, q.1 ≠ p.1 := fun q hq => h q (hs q hq)
theorem lt_ofAll {news nl : List (Addr × Obj)} {D : Addr} (h : ∀ p ∈ nl, p.1 < D) (hs : ∀ q ∈ news, q ∈ nl) : ∀ q ∈ news, q.1 ≠ D := fun q hq => Nat.ne_of_lt (h q (hs q hq))
theorem lt_ofAllS {news nl : List (Addr × Obj)} {D : Addr} (h : ∀ p ∈ nl, p.1 < D) (hs : ∀ q ∈ news, q ∈ nl) : ∀ q ∈ news, q.1 ≠ D + 1 := fun q hq => Nat.ne_of_lt (Nat.lt_succ_of_lt (h q (hs q hq)))
theorem ne_ofOff {news nl : List (Addr × Obj)} {D : Addr} (h : LCg.Off1 D nl) (hs : ∀ q ∈ news, q ∈ nl) : ∀ q ∈ news, q.1 ≠ D := by
  have all : ∀ {l : List (Addr × Obj)}, LCg.Off1 D l → ∀ q ∈ l, q.1 ≠ D := by
    intro l
    induction l with
    | nil => intro _ q hq; cases hq
    | cons x l ih =>
      intro h q hq
      rcases List.mem_cons.mp hq with rfl | hq
      · exact h.1
      · exact ih h.2 q hq
  exact fun q hq => all h q (hs q hq)
theorem ne_ofAll {news nl : List (Addr × Obj)} {D : Addr} (h : ∀ p ∈ nl, p.1 ≠ D) (hs : ∀ q ∈ news, q ∈ nl) : ∀ q ∈ news, q.1 ≠ D := fun q hq => h q (hs q hq)
theorem news_ext {h₀ h' : Heap} {L : Addr} {news nl tl : List (Addr × Obj)} (N : News h₀ L h' nl) (x : Ext news nl tl) : News h₀ L h' (news ++ tl) ∧ (∀ q ∈ news, ∀ p ∈ tl, q.1 ≠ p.1) ∧ ∀ p ∈ nl, p ∈ news ++ tl :=
  ⟨fun p hp => N p (x.sub p hp), x.ord, x.sup⟩
theorem sub_consL {a : Addr × Obj} {l l' : List (Addr × Obj)} (h : a ∈ l') (hs : ∀ p ∈ l, p ∈ l') : ∀ p ∈ a :: l, p ∈ l' := List.forall_mem_cons.mpr ⟨h, hs⟩
theorem sub_appL {l k l' : List (Addr × Obj)} (h : ∀ p ∈ l, p ∈ l') (hs : ∀ p ∈ k, p ∈ l') : ∀ p ∈ l ++ k, p ∈ l' := List.forall_mem_append.mpr ⟨h, hs⟩
def Tel (w : World) (f : Addr) (news : List (Addr × Obj)) (vs : List Value) (S : Nat) (Out : List (Addr × Obj) → Value → Prop) : Prop :=
  ∀ (mean : ExcName → Option Value) (mg mb : Str → Option Value) (dp un : Nat) (gd : Option (List Code)) (cn : Str) (cs : Scope) (a : Addr) (ccd : Value) (cl : List (Str × Addr)) (outer : List Env) (A₀ : Around) (base h₀ : Heap) (L : Addr) (m : Str → Option Value) (s : Shared)
    (Q E : Value → Shared → Prop),
    Below A₀ base outer h₀ → Fr h₀ L s.heap m → (Mine.hd.heap_39 w.params).In h₀ → News h₀ L s.heap news → Top Mine.hd.view_39 (looseW Mine.hd.view_39 [Str.ofString "locale_encoding_alias", Str.ofString "EXACT_TOKEN_TYPES"]) mean mg mb h₀ → cs.kind = .function → dp + S < recursionLimit → un + 8 * S < cLine →
    (∀ r tl h' tk', Fr h₀ L h' m → News h₀ L h' (news ++ tl) → (∀ q ∈ news, ∀ p ∈ tl, q.1 ≠ p.1) → Out (news ++ tl) r → Q r { s with heap := h', toks := tk' }) →
    wpAny (model PySem.Challenge.rw_il0204_01.row.prog w) (ktrTop dp un gd cn cs L a ccd cl outer) (call (.ref f) vs) Q E s
theorem Tel.use {w : World} {f : Addr} {news : List (Addr × Obj)} {vs : List Value} {S : Nat} {Out : List (Addr × Obj) → Value → Prop} {mean : ExcName → Option Value} {mg mb : Str → Option Value} {dp un : Nat} {gd : Option (List Code)} {cn : Str} {cs : Scope} {a : Addr} {ccd : Value} {cl : List (Str × Addr)} {outer : List Env} {A₀ : Around} {base h₀ : Heap} {L : Addr} {m : Str → Option Value} {s : Shared} {Q E : Value → Shared → Prop}
    (B : Below A₀ base outer h₀) (F : Fr h₀ L s.heap m) (X : (Mine.hd.heap_39 w.params).In h₀) (N : News h₀ L s.heap news) (T : Top Mine.hd.view_39 (looseW Mine.hd.view_39 [Str.ofString "locale_encoding_alias", Str.ofString "EXACT_TOKEN_TYPES"]) mean mg mb h₀) (hk : cs.kind = .function)
    (C : Tel w f news vs S Out) (hd : dp + S < recursionLimit) (hu : un + 8 * S < cLine)
    (ret : ∀ r tl h' tk', Fr h₀ L h' m → News h₀ L h' (news ++ tl) → (∀ q ∈ news, ∀ p ∈ tl, q.1 ≠ p.1) → Out (news ++ tl) r → Q r { s with heap := h', toks := tk' }) :
    wpAny (model PySem.Challenge.rw_il0204_01.row.prog w) (ktrTop dp un gd cn cs L a ccd cl outer) (call (.ref f) vs) Q E s := C _ _ _ _ _ _ _ _ _ _ _ _ _ _ _ _ _ _ _ _ B F X N T hk hd hu ret
section
variable {prog : Program} {w : World} {A : Around} {E : Value → Shared → Prop} {s : Shared} {h₀ : Heap} {L : Addr} {m : Str → Option Value} {news : List (Addr × Obj)} {vs : List Value} {Q : Value → Shared → Prop}
theorem my_newList (F : Fr h₀ L s.heap m) (N : News h₀ L s.heap news)
    (h : ∀ D h', Fr h₀ L h' m → News h₀ L h' ((D, W.listOf vs.toArray 0) :: news) → (∀ p ∈ news, p.1 < D) → Q (.ref D) { s with heap := h' }) (hsz : vs.length ≤ sizeLine) :
    wpAny (model prog w) A (newList vs) Q E s := newList_N F N (fun h' F' N' => h _ h' F' N' fun p hp => Heap.lt_size (N p hp).1) hsz
end
def TurnEnd (h₀ : Heap) (L : Addr) (I : Addr) (oI : Obj) (J : (Str → Option Value) → List (Addr × Obj) → Prop) (s₁ : Shared) (Q : Flow → Shared → Prop) (f : Flow) (s₂ : Shared) : Prop :=
  match f with
  | .ret v => Q (.ret v) s₂
  | .brk => Q .next s₂
  | _ => ∃ h' tk m' nx, s₂ = { s₁ with heap := h', toks := tk } ∧ Fr h₀ L h' m' ∧ News h₀ L h' ((I, oI) :: nx) ∧ (∀ p ∈ nx, p.1 ≠ I) ∧ J m' nx
section
variable {prog : Program} {w : World} {A : Around} {E : Value → Shared → Prop} {s : Shared} {env : Env} {h₀ : Heap} {target : Expr} {body : List Stmt} {Q : Flow → Shared → Prop}
theorem my_turns {l : Addr} {vs : List Value} {nn : Nat} {m₀ : Str → Option Value} {news : List (Addr × Obj)} (J : Nat → (Str → Option Value) → List (Addr × Obj) → Prop)
    (hh : A.handled = none) (hl : (l, W.listOf vs.toArray nn) ∈ news) (F : Fr h₀ env.locals s.heap m₀) (N : News h₀ env.locals s.heap news) (hj : J 0 m₀ news)
    (turn : ∀ i v m₁ nx h tk I oI, vs[i]? = some v → (∀ p ∈ nx, p.1 ≠ I) → (l, W.listOf vs.toArray nn) ∈ nx → J i m₁ nx → Fr h₀ env.locals h m₁ → News h₀ env.locals h ((I, oI) :: nx) →
      wpAny (model prog w) A (assign target env v) (fun _ s₃ => wpAny (model prog w) A (execs body env) (TurnEnd h₀ env.locals I oI (fun m' nx => (l, W.listOf vs.toArray nn) ∈ nx ∧ J (i + 1) m' nx) { s with heap := h, toks := tk } Q) E s₃) E { s with heap := h, toks := tk })
    (done : ∀ m₁ nx h tk, (l, W.listOf vs.toArray nn) ∈ nx → J vs.length m₁ nx → Fr h₀ env.locals h m₁ → News h₀ env.locals h nx → Q .next { s with heap := h, toks := tk }) :
    wpAny (model prog w) A (pyIter (.ref l)) (fun it s₂ => TurnsAt prog w A h₀ env target body Q E it s₂) E s := by
  have hol : s.heap.get? l = some (W.listOf vs.toArray nn) := (N _ hl).1
  have hls : s.heap.IsList l vs.toArray := ⟨_, hol, rfl, nn, rfl⟩
  have hne : l ≠ s.heap.objs.size := Nat.ne_of_lt (Heap.lt_size hol)
  have up : ∀ {b : Addr} {o : Obj}, s.heap.get? b = some o → (s.heap.push { cls := .type "list_iterator", data := .fields #[.ref l, .int 0 0] }).get? b = some o := fun e => Heap.get?_push_of_some _ e
  refine wpAny_pyIter_list hls ?_
  have Wk := Walks.list (prog := prog) (w := w) hh s.heap.objs.size l hne vs.toArray
  have hlen : vs.toArray.size = vs.length := by simp
  rw [hlen] at Wk
  refine ⟨s.heap.objs.size, _, _, vs.length, _, _, _, m₀, news, (fun i m nx => (l, W.listOf vs.toArray nn) ∈ nx ∧ J i m nx), rfl, KTurns.ofWalks Wk (fun i v s Q E st q => letGo_listiter st.1 q), ?_, ?_, ?_, ⟨⟨_, Heap.get?_push_size _ rfl, rfl, rfl⟩, hls.at fun o e => up e⟩, F.push _, (fun p hp => ⟨up (N p hp).1, (N p hp).2⟩), ⟨hl, hj⟩, ?_, ?_⟩
  · intro hm
    rcases List.mem_cons.mp hm with e | hm
    · exact absurd F.ns.lt (e ▸ Nat.lt_irrefl _)
    · exact (N _ hl).2.1 (List.mem_singleton.mp hm).symm
  · intro b hb
    rw [List.mem_singleton.mp hb]
    exact next_is_new F
  · intro p hp hI
    exact absurd (Heap.lt_size (N p hp).1) (List.mem_singleton.mp hI ▸ Nat.lt_irrefl _)
  · rintro i v m₁ nx h₁ tk₁ own hin hP ⟨hml, hJ⟩ hoff hown hget hmem hst F₁ N₁
    have hv : vs[i]? = some v := by simpa using hP
    obtain ⟨⟨oI, hoI, _⟩, _⟩ := id hst
    have hIown : (s.heap.objs.size, oI) ∈ own := hmem _ (List.mem_cons.mpr (.inl rfl)) (next_is_new F) _ hoI
    have hnI : ∀ p ∈ nx, p.1 ≠ s.heap.objs.size := fun p hp e => hoff p hp (List.mem_singleton.mpr e)
    refine wpAny_mono (turn i v m₁ nx h₁ tk₁ _ oI hv hnI hml hJ F₁ (fun p hp => ?_)) (fun _ s₃ q => wpAny_mono q (fun f s₂ p => ?_) fun _ _ e => e) fun _ _ e => e
    · rcases List.mem_cons.mp hp with rfl | hp
      · exact N₁ _ (List.mem_append_left _ hIown)
      · exact N₁ p (List.mem_append_right _ hp)
    · have fin : (∃ h' tk m' nx', s₂ = { ({ s with heap := h₁, toks := tk₁ } : Shared) with heap := h', toks := tk } ∧ Fr h₀ env.locals h' m' ∧ News h₀ env.locals h' ((s.heap.objs.size, oI) :: nx') ∧ (∀ p ∈ nx', p.1 ≠ s.heap.objs.size) ∧ ((l, W.listOf vs.toArray nn) ∈ nx' ∧ J (i + 1) m' nx')) →
          LoopStepU h₀ env.locals [s.heap.objs.size] own (fun m nx => (l, W.listOf vs.toArray nn) ∈ nx ∧ J (i + 1) m nx) { s with heap := h₁, toks := tk₁ } .next s₂ := by
        rintro ⟨h', tk, m', nx', e, F', N', ha, hm⟩
        refine ⟨rfl, h', tk, m', nx', e, F', fun p hp => ?_, fun p hp hq => ha p hp (List.mem_singleton.mp hq), hm⟩
        rcases List.mem_append.mp hp with h | h
        · have hg := hget p h
          rcases List.mem_cons.mp (hown p h) with h2 | h2
          · rw [h2, hoI] at hg
            have : p = (s.heap.objs.size, oI) := Prod.ext h2 (Option.some.inj hg).symm
            rw [this]
            exact N' _ (.head _)
          · have h2 := List.mem_singleton.mp h2
            have hlo : h₁.get? l = some (W.listOf vs.toArray nn) := (N₁ _ (List.mem_append_right _ hml)).1
            rw [h2, hlo] at hg
            have : p = (l, W.listOf vs.toArray nn) := Prod.ext h2 (Option.some.inj hg).symm
            rw [this]
            exact N' _ (.tail _ hm.1)
        · exact N' p (.tail _ h)
      cases f with
      | ret v => exact .ret p
      | brk => exact .brk p
      | next => exact .next (fin p)
      | cont => exact .cont (fin p)
  · rintro h' tk m' nx F' N' _ ⟨hml, hJ⟩
    exact done m' nx h' tk hml hJ F' N'
theorem fr_know {h : Heap} {L : Addr} {m : Str → Option Value} {x : Str} {v : Value} (F : Fr h₀ L h m) (hm : m x = some v) : Fr h₀ L h (fun y => if y = x then some v else m y) := by
  have e : (fun y => if y = x then some v else m y) = m := by
    funext y
    split
    · rename_i q; rw [q, hm]
    · rfl
  rw [e]
  exact F
end
structure Tn (news nl tl : List (Addr × Obj)) (I : Addr) (oI : Obj) : Prop where
  sub : ∀ p ∈ (I, oI) :: (news ++ tl), p ∈ nl
  ord : ∀ q ∈ news, ∀ p ∈ tl, q.1 ≠ p.1
  off : ∀ p ∈ news ++ tl, p.1 ≠ I
section
variable {news nl tl : List (Addr × Obj)} {I D : Addr} {oI o : Obj}
theorem Tn.base (h1 : ∀ q ∈ news, ∀ p ∈ tl, q.1 ≠ p.1) (h2 : ∀ p ∈ news ++ tl, p.1 ≠ I) : Tn news ((I, oI) :: (news ++ tl)) tl I oI := ⟨fun _ h => h, h1, h2⟩
theorem Tn.cons (h : ∀ p ∈ (I, oI) :: news, p.1 ≠ D) (x : Tn news nl tl I oI) : Tn news ((D, o) :: nl) ((D, o) :: tl) I oI := by
  refine ⟨fun p hp => ?_, fun q hq p hp => ?_, fun p hp => ?_⟩
  · rcases List.mem_cons.mp hp with rfl | hp
    · exact .tail _ (x.sub _ (.head _))
    · rcases List.mem_append.mp hp with hp | hp
      · exact .tail _ (x.sub _ (.tail _ (List.mem_append_left _ hp)))
      · rcases List.mem_cons.mp hp with rfl | hp
        · exact .head _
        · exact .tail _ (x.sub _ (.tail _ (List.mem_append_right _ hp)))
  · rcases List.mem_cons.mp hp with rfl | hp
    · exact h q (.tail _ hq)
    · exact x.ord q hq p hp
  · rcases List.mem_append.mp hp with hp | hp
    · exact x.off p (List.mem_append_left _ hp)
    · rcases List.mem_cons.mp hp with rfl | hp
      · exact (h _ (.head _)).symm
      · exact x.off p (List.mem_append_right _ hp)
theorem Tn.led {h₀ h' : Heap} {L : Addr} (x : Tn news nl tl I oI) (N : News h₀ L h' nl) : News h₀ L h' ((I, oI) :: (news ++ tl)) := fun p hp => N p (x.sub p hp)
end
theorem news_swap {h₀ h : Heap} {L : Addr} {x : Addr × Obj} {l : List (Addr × Obj)} (N : News h₀ L h (x :: l)) : News h₀ L h (l ++ [x]) := fun p hp => N p ((List.mem_append.mp hp).elim (fun h => .tail _ h) fun h => by rw [List.mem_singleton.mp h]; exact .head _)
theorem ord_one {news : List (Addr × Obj)} {D : Addr} {o : Obj} (h : ∀ q ∈ news, q.1 < D) : ∀ q ∈ news, ∀ p ∈ [(D, o)], q.1 ≠ p.1 := fun q hq p hp => by rw [List.mem_singleton.mp hp]; exact Nat.ne_of_lt (h q hq)
theorem mem_one {news : List (Addr × Obj)} {x : Addr × Obj} : x ∈ news ++ [x] := List.mem_append_right _ (.head _)
theorem turn_next {h₀ h' : Heap} {L I : Addr} {oI : Obj} {J : (Str → Option Value) → List (Addr × Obj) → Prop} {s₁ : Shared} {tk : Nat} {Q : Flow → Shared → Prop} {m' : Str → Option Value} {news nl tl : List (Addr × Obj)}
    (F : Fr h₀ L h' m') (N : News h₀ L h' nl) (x : Tn news nl tl I oI) (hJ : J m' (news ++ tl)) : TurnEnd h₀ L I oI J s₁ Q .next { s₁ with heap := h', toks := tk } :=
  ⟨h', tk, m', news ++ tl, rfl, F, x.led N, x.off, hJ⟩
theorem tn_of {h₀ h' : Heap} {L I : Addr} {oI : Obj} {news nl tl : List (Addr × Obj)} (_N : News h₀ L h' nl) (x : Tn news nl tl I oI) : Tn news nl tl I oI := x
def WhileEnd {σ : Type} (μ : σ → Nat) (Inv : σ → Shared → Prop) (c : σ) (Q : Flow → Shared → Prop) (f : Flow) (s : Shared) : Prop :=
  match f with
  | .ret v => Q (.ret v) s
  | .brk => Q .next s
  | _ => ∃ c', μ c' < μ c ∧ Inv c' s
section
variable {prog : Program} {w : World} {A : Around} {E : Value → Shared → Prop} {s : Shared} {env : Env} {test : PySem.Expr} {body : List Stmt} {Q : Flow → Shared → Prop}
theorem my_while {σ : Type} (μ : σ → Nat) (Inv : σ → Shared → Prop) (c₀ : σ) (h0 : Inv c₀ s)
    (turn : ∀ c s, Inv c s → wpAny (model prog w) A (isTrue test env (eval test env)) (fun b s₂ => WhlIf b (wpAny (model prog w) A (execs body env) (WhileEnd μ Inv c Q) E s₂) (Q .next s₂)) E s)
    (hE : PassesOwn (model prog w) A env E := by passes_own) {pos : Pos} : wpAny (model prog w) A (exec (.While test body [] pos) env) Q E s := by
  have all : ∀ (n : Nat) (c : σ) (s : Shared), μ c < n → Inv c s → WhlRest prog w A E env test body [] Q 1 s := by
    intro n
    induction n with
    | zero => intro c s h; exact absurd h (Nat.not_lt_zero _)
    | succ n ih =>
      intro c s hn hc
      refine whl_turn (k := 0) hE (wpAny_mono (turn c s hc) (fun b s₂ hb => ?_) fun _ _ e => e)
      unfold WhlIf at hb ⊢
      split
      · rename_i hq
        rw [if_pos hq] at hb
        refine wpAny_mono hb (fun f s₃ hf => ?_) fun _ _ e => e
        cases f with
        | ret v => exact hf
        | brk => exact hf
        | next => obtain ⟨c', h1, h2⟩ := hf; exact ih c' s₃ (by omega) h2
        | cont => obtain ⟨c', h1, h2⟩ := hf; exact ih c' s₃ (by omega) h2
      · rename_i hq
        rw [if_neg hq] at hb
        exact wpAny_execs_nil hb
  exact whl_start 1 (all _ c₀ s (Nat.lt_succ_self _) h0)
end
abbrev tupO (its : Array Value) (k : Nat) : Obj := { cls := .type "tuple", data := .seq its k }
def TupSrc (prog : Program) (w : World) (A : Around) (h₀ : Heap) (L : Addr) (m : Str → Option Value) (env : Env) (ct elt : PySem.Expr) (x y : Str) (scope : Scope) (cl : List (Str × Addr)) (Q : Flow → Shared → Prop) (xv : Value) (s₁ : Shared) : Prop :=
  ∃ ax its k news, xv = .ref ax ∧ A.handled = none ∧ Fr h₀ L s₁.heap m ∧ News h₀ L s₁.heap news ∧ (ax, tupO its k) ∈ news ∧ its.size ≤ sizeLine ∧
    ∀ s₂ : Shared, (∃ h, s₂ = { s₁ with heap := h }) → LCt.CompRestT prog w A h₀ L m env ct elt x scope cl s₂ (fun nw => (ax, tupO its k) ∈ nw) (fun i v => its[i]? = some v) (LCg.FinA h₀ L m s₂ y Q) its.size 0 [] news
section
variable {prog : Program} {w : World} {A : Around} {E : Value → Shared → Prop} {s : Shared} {h₀ : Heap} {m : Str → Option Value} {env : Env}
theorem comp_tuple {ct elt iter : PySem.Expr} {x y : Str} {px py : Pos} {scope : Scope} {cl : List (Str × Addr)} {pos spos : Pos} {Q : Flow → Shared → Prop} (_F₀ : Fr h₀ env.locals s.heap m)
    (hsw : swapsWith (.ListComp elt [⟨.Name x px, iter, [ct], 0⟩] scope pos) (some (.Name y py)) spos.line env = pure true)
    (hclos : closureFor scope env = pure cl) (hcell : ∀ z ∈ scope.names, z.2 ≠ .cell) (hkind : scope.kind = .function)
    (hnames : ∀ z ∈ scope.names, z.2 = .local → scope.names.lookup z.1 = some .local) (hx : scope.names.lookup x = some .local)
    (hy : env.kindOf y = some .local) (hp : (env.scope.kind == .class || (env.scope.kind == .module && env.locals != env.globals)) = false)
    (h : wpAny (model prog w) A (eval iter env) (TupSrc prog w A h₀ env.locals m env ct elt x y scope cl Q) E s)
    (hs : ∀ x, foldedSetIterable iter env x = pure x := by intro _; rfl) :
    wpAny (model prog w) A (exec (.Assign [.Name y py] (.ListComp elt [⟨.Name x px, iter, [ct], 0⟩] scope pos) spos) env) Q E s := by
  rw [exec_Assign_Name_used _ _ _ _ hsw]
  refine wpAny_bind (wpAny_standAt (wpAny_bind ?_))
  show wpAny _ A (do let _ ← comprehension (.ListComp elt [⟨.Name x px, iter, [ct], 0⟩] scope pos) scope env _ (newList []) false (eval iter env) (some (assign (.Name y py) env))) _ _ s
  refine wpAny_bind (wpAny_mono (wpAny_comprehension_free (use := some (assign (.Name y py) env)) (Q := fun _ s' => Q .next s') rfl hs hclos hkind hnames (wpAny_mono h (fun xv s₁ h₁ => ?_) fun _ _ e => e))
    (fun _ s' q => wpAny_pure (wpAny_pure q)) fun _ _ e => e)
  obtain ⟨ax, its, k, news, rfl, hh, F, N, hm, hsz, R⟩ := h₁
  have ht : s₁.heap.IsTuple ax its := ⟨_, (N _ hm).1, rfl, k, rfl⟩
  have hlt : ax < s₁.heap.objs.size := Heap.lt_size (N _ hm).1
  have up : ∀ b o, s₁.heap.get? b = some o → (s₁.heap.push { cls := .type "tuple_iterator", data := .fields #[.ref ax, .int 0 0] }).get? b = some o := fun b o e => Heap.get?_push_of_some _ e
  refine wpAny_pyIter_tuple ht ?_
  refine LCt.block_T (I := s₁.heap.objs.size) (Walks.tuple hh s₁.heap.objs.size ax (Nat.ne_of_lt hlt) its) hsz (fun i h st => by obtain ⟨o, e, _⟩ := st.1; exact ⟨o, e⟩) ?keep hcell hkind hx ⟨⟨_, Heap.get?_push_size _ rfl, rfl, rfl⟩, ht.push _⟩ ?room
    (F.keeps up) (N.grown up) (Nat.ne_of_lt F.ns.lt) (next_is_new F) (fun p hp => Nat.ne_of_lt (Heap.lt_size (N p hp).1)) hm (R _ ⟨_, rfl⟩) ?fin
  case keep =>
    intro i h h' o nw st e1 e2 _ N' hS
    exact ⟨st.1.at fun o' e => by rw [e1] at e; exact Option.some.inj e ▸ e2, ⟨_, (N' _ hS).1, rfl, k, rfl⟩⟩
  case room =>
    intro b hb
    show b < (s₁.heap.push _).objs.size
    rw [Heap.size_push]
    rcases List.mem_cons.mp hb with rfl | hb
    · exact Nat.lt_succ_self _
    · rw [List.mem_singleton.mp hb]; exact Nat.lt_succ_of_lt hlt
  case fin =>
    intro D C h' tk m' ys news' F' N' o1 hn hC₀ hD₀ hCL hDL hCD offC fin
    show wpAny _ A (assign (.Name y py) env (.ref D)) _ _ _
    refine wpAny_assign_Name (wpAny_storeName_local hy F'.ns (fun h₂ hn₂ hs₂ => ?_) hp)
    have hL₀ : h₀.get? env.locals = none := Heap.get?_none_of_le F'.above
    have F₂ : Fr h₀ env.locals h₂ (fun z => if z = y then some (.ref D) else m z) := ⟨hn₂, fun b o e => hs₂.extBut b o (fun q => by rw [q, hL₀] at e; cases e) (F'.keep b o e), F'.above⟩
    refine ⟨m', hn.sameBut hs₂ hCL, fun h'' hs'' => fin D h'' _ (F₂.change hs'' hCL hC₀) (fun p hp => ?_) o1⟩
    refine ⟨hs''.extBut _ _ ?_ (hs₂.extBut _ _ (N' p hp).2.1 (N' p hp).1), (N' p hp).2⟩
    rcases List.mem_cons.mp hp with rfl | hp
    · exact Ne.symm hCD
    · exact offC p hp
end
section
variable {prog : Program} {w : World} {A : Around} {E : Value → Shared → Prop} {s : Shared} {h₀ : Heap} {L a c : Addr} {m : Str → Option Value} {news rest : List (Addr × Obj)} {vs : List Value} {x : Value} {n : Nat}
theorem my_append {Q : Value → Shared → Prop} (F : Fr h₀ L s.heap m) (N : News h₀ L s.heap news) (ma : (a, W.listOf vs.toArray n) ∈ news) (hn : ∀ p ∈ rest, p.1 ≠ a) (hs : ∀ p ∈ rest, p ∈ news) (hz : vs.length ≤ 1000000)
    (h : ∀ h', Fr h₀ L h' m → News h₀ L h' ((a, W.listOf (vs ++ [x]).toArray (n + 1)) :: rest) → Q .none { s with heap := h' }) : wpAny (model prog w) A (call (.builtin "list.append") [.ref a, x]) Q E s := by
  have N2 : News h₀ L s.heap ((a, W.listOf vs.toArray n) :: rest) := cb_drop N (List.forall_mem_cons.mpr ⟨ma, hs⟩)
  have e : vs.toArray.push x = (vs ++ [x]).toArray := by simp
  refine append_K F N2 (.head hn) (fun h' F' N' => h h' F' ?_) ?_
  · first | exact N' | (rw [e] at N'; exact N') | simpa using N'
  · simp [PySem.sizeLine_eq]; omega
theorem my_storeC {env : Env} {name : Str} {o : Obj} {v₀ : Option Value} {v : Value} {Q : Unit → Shared → Prop} (F : Fr h₀ L s.heap m) (N : News h₀ L s.heap news) (mc : (c, o) ∈ news) (hn : ∀ p ∈ rest, p.1 ≠ c) (hs : ∀ p ∈ rest, p ∈ news)
    (hk : env.scope.kind = .function) (hl : env.kindOf name = some .cell) (hc : env.cells.lookup name = some c) (hd : o.data = .cell v₀)
    (h : ∀ h' o', Fr h₀ L h' m → News h₀ L h' ((c, o') :: rest) → o'.data = .cell (some v) → Q () { s with heap := h' }) : wpAny (model prog w) A (storeName env name v) Q E s := by
  have hm := N _ mc
  refine wpAny_storeName_cell hk hl hc ⟨o, hm.1, hd⟩ fun h' hv hb => ?_
  obtain ⟨o', ho', hd'⟩ := hv
  refine h h' o' ⟨F.ns.sameBut hb (Ne.symm hm.2.1), fun b ob e => (hb.2 b (fun q => ?_)).trans (F.keep b ob e), F.above⟩ ?_ hd'
  · rw [q, hm.2.2] at e; cases e
  · refine List.forall_mem_cons.mpr ⟨⟨ho', hm.2⟩, fun p hp => ⟨(hb.2 p.1 (hn p hp)).trans (N p (hs p hp)).1, (N p (hs p hp)).2⟩⟩
end
def intsD (n : Int) (k : Int) : List Dat := List.replicate k.toNat (Dat.int n)
def toldStep (st : List Dat × Str) (r : Run) : List Dat × Str :=
  (if (r.1 == Str.ofString ".") = true then st.1 ++ intsD 52 (r.2.fdiv 3) ++ intsD 23 (r.2.fmod 3)
   else if (r.1 == Str.ofString "=") = true then
     if (st.2 == Str.ofString "@") = true then st.1.dropLast ++ [Dat.int 50] ++ intsD 27 ((r.2 - 1).fdiv 2) ++ intsD 22 ((r.2 - 1).fmod 2)
     else st.1 ++ intsD 27 (r.2.fdiv 2) ++ intsD 22 (r.2.fmod 2)
   else if (r.1 == Str.ofString "@") = true then st.1 ++ intsD 49 r.2
   else if (r.1 == Str.ofString "-") = true then st.1 ++ [Dat.int 15]
   else st.1 ++ [Dat.str r.1], r.1)
def toldL (rs : List Run) : List Dat := (rs.foldl toldStep ([], Str.ofString "")).1
def sizeL (rs : List Run) : Int := (rs.map (·.2)).sum
section
variable {prog : Program} {w : World} {A : Around} {E : Value → Shared → Prop} {s : Shared} {h₀ : Heap} {L a : Addr} {m : Str → Option Value} {news : List (Addr × Obj)} {vs : List Value} {v : Value} {n : Nat} {x : Int} {u : Tok} {ds : List Dat} {Q : Value → Shared → Prop}
theorem my_mul (F : Fr h₀ L s.heap m) (N : News h₀ L s.heap news) (ma : (a, W.listOf [v].toArray n) ∈ news) (h0 : 0 ≤ x) (hhi : x ≤ 1000000)
    (h : ∀ D h', Fr h₀ L h' m → News h₀ L h' ((D, W.listOf (List.replicate x.toNat v).toArray 0) :: news) → (∀ p ∈ news, p.1 < D) → Q (.ref D) { s with heap := h' }) :
    wpAny (model prog w) A (binaryOp .Mult (.ref a) (.int x u)) Q E s := by
  refine mul_list F N (N _ ma).1 (by omega) (by omega) (by simp; omega) fun h' F' N' => ?_
  refine h _ h' F' ?_ fun p hp => Heap.lt_size (N p hp).1
  have e : (List.foldl (fun x1 x2 => x1 ++ x2) #[] (List.replicate (if (#[v] : Array Value).isEmpty = true then 0 else x.toNat) #[v])) = (List.replicate x.toNat v).toArray := by
    have key : ∀ (k : Nat) (acc : Array Value), List.foldl (fun x1 x2 => x1 ++ x2) acc (List.replicate k #[v]) = acc ++ (List.replicate k v).toArray := by
      intro k
      induction k with
      | zero => intro acc; simp
      | succ k ih =>
        intro acc
        rw [List.replicate_succ, List.foldl_cons, ih, List.replicate_succ]
        apply Array.toList_inj.mp
        simp
    simp [key]
  rw [e] at N'
  exact N'
theorem dat_rep {i : Int} {t : Tok} (k : Int) : DatAll news (List.replicate k.toNat (.int i t)) (intsD i k) := by
  unfold intsD
  induction k.toNat with
  | zero => exact .nil
  | succ k ih => exact .cons (.int i t) ih
theorem dat_dropLast (h : DatAll news vs ds) : DatAll news vs.dropLast ds.dropLast := by
  induction vs generalizing ds with
  | nil => cases h; exact .nil
  | cons x vs ih =>
    cases h with
    | cons h r =>
      cases r with
      | nil => exact .nil
      | cons h2 r2 =>
        have := ih (.cons h2 r2)
        simp only [List.dropLast_cons_cons] at this ⊢
        exact .cons h this
end
theorem toldStep_len (st : List Dat × Str) (r : Run) (h : 1 ≤ r.2) : ((toldStep st r).1.length : Int) ≤ st.1.length + r.2 := by
  have hl : ∀ (i k : Int), 0 ≤ k → ((intsD i k).length : Int) = k := by intro i k hk; simp [intsD]; omega
  have d3 := Int.fdiv_eq_ediv_of_nonneg r.2 (show (0:Int) ≤ 3 by decide)
  have m3 := Int.fmod_eq_emod_of_nonneg r.2 (show (0:Int) ≤ 3 by decide)
  have d2 := Int.fdiv_eq_ediv_of_nonneg r.2 (show (0:Int) ≤ 2 by decide)
  have m2 := Int.fmod_eq_emod_of_nonneg r.2 (show (0:Int) ≤ 2 by decide)
  have d2' := Int.fdiv_eq_ediv_of_nonneg (r.2 - 1) (show (0:Int) ≤ 2 by decide)
  have m2' := Int.fmod_eq_emod_of_nonneg (r.2 - 1) (show (0:Int) ≤ 2 by decide)
  unfold toldStep
  simp only
  split
  · simp only [List.length_append, Int.natCast_add]
    rw [hl _ _ (by omega), hl _ _ (by omega)]
    omega
  · split
    · split
      · simp only [List.length_append, Int.natCast_add, List.length_dropLast, List.length_cons, List.length_nil]
        rw [hl _ _ (by omega), hl _ _ (by omega)]
        omega
      · simp only [List.length_append, Int.natCast_add]
        rw [hl _ _ (by omega), hl _ _ (by omega)]
        omega
    · split
      · simp only [List.length_append, Int.natCast_add]
        rw [hl _ _ (by omega)]
        omega
      · split <;> simp <;> omega
theorem told_len : ∀ (rs : List Run) (st : List Dat × Str), (∀ r ∈ rs, 1 ≤ r.2) → ((rs.foldl toldStep st).1.length : Int) ≤ st.1.length + sizeL rs
  | [], st, _ => by simp [sizeL]
  | r :: rs, st, h => by
    have h1 := toldStep_len st r (h r (.head _))
    have h2 := told_len rs (toldStep st r) fun x hx => h x (.tail _ hx)
    simp only [List.foldl_cons, sizeL, List.map_cons, List.sum_cons] at h2 ⊢
    omega
theorem sizeL_take : ∀ (rs : List Run) (k : Nat), (∀ r ∈ rs, 1 ≤ r.2) → sizeL (rs.take k) ≤ sizeL rs
  | [], k, _ => by simp [sizeL]
  | r :: rs, 0, h => by
    have := sizeL_take rs 0 fun x hx => h x (.tail _ hx)
    have h1 := h r (.head _)
    simp only [sizeL, List.take_zero, List.map_nil, List.sum_nil, List.map_cons, List.sum_cons] at this ⊢
    omega
  | r :: rs, k + 1, h => by
    have := sizeL_take rs k fun x hx => h x (.tail _ hx)
    simp only [sizeL, List.take_succ_cons, List.map_cons, List.sum_cons] at this ⊢
    omega
theorem sizeL_mem : ∀ {rs : List Run} {r : Run}, (∀ r ∈ rs, 1 ≤ r.2) → r ∈ rs → r.2 ≤ sizeL rs
  | [], _, _, h => by cases h
  | x :: rs, r, h, hr => by
    have h0 := sizeL_take rs 0 fun x hx => h x (.tail _ hx)
    have hx := h x (.head _)
    simp only [sizeL, List.take_zero, List.map_nil, List.sum_nil, List.map_cons, List.sum_cons] at h0 ⊢
    rcases List.mem_cons.mp hr with rfl | hr
    · omega
    · have := sizeL_mem (rs := rs) (fun x hx => h x (.tail _ hx)) hr
      simp only [sizeL] at this
      omega
theorem div_facts {c : Int} {k : Int} (h0 : 0 ≤ c) (h1 : c ≤ 1000) (hk : 1 ≤ k) (hk2 : k ≤ 3) : 0 ≤ c.fdiv k ∧ c.fdiv k ≤ 1000 ∧ 0 ≤ c.fmod k ∧ c.fmod k ≤ 1000 := by
  have d := Int.fdiv_eq_ediv_of_nonneg c (show (0:Int) ≤ k by omega)
  have m := Int.fmod_eq_emod_of_nonneg c (show (0:Int) ≤ k by omega)
  rw [d, m]
  have hk3 : k = 1 ∨ k = 2 ∨ k = 3 := by omega
  rcases hk3 with rfl | rfl | rfl <;> omega
def inD (z : Str) : Bool :=
  (decide (z = (⟨#[33]⟩ : Str)) || (decide (z = (⟨#[33, 61]⟩ : Str)) || (decide (z = (⟨#[37]⟩ : Str)) || (decide (z = (⟨#[37, 61]⟩ : Str)) || (decide (z = (⟨#[38]⟩ : Str)) || (decide (z = (⟨#[38, 61]⟩ : Str)) || (decide (z = (⟨#[40]⟩ : Str)) || (decide (z = (⟨#[41]⟩ : Str)) || (decide (z = (⟨#[42]⟩ : Str)) || (decide (z = (⟨#[42, 42]⟩ : Str)) || (decide (z = (⟨#[42, 42, 61]⟩ : Str)) || (decide (z = (⟨#[42, 61]⟩ : Str)) || (decide (z = (⟨#[43]⟩ : Str)) || (decide (z = (⟨#[43, 61]⟩ : Str)) || (decide (z = (⟨#[44]⟩ : Str)) || (decide (z = (⟨#[45]⟩ : Str)) || (decide (z = (⟨#[45, 61]⟩ : Str)) || (decide (z = (⟨#[45, 62]⟩ : Str)) || (decide (z = (⟨#[46]⟩ : Str)) || (decide (z = (⟨#[46, 46, 46]⟩ : Str)) || (decide (z = (⟨#[47]⟩ : Str)) || (decide (z = (⟨#[47, 47]⟩ : Str)) || (decide (z = (⟨#[47, 47, 61]⟩ : Str)) || (decide (z = (⟨#[47, 61]⟩ : Str)) || (decide (z = (⟨#[58]⟩ : Str)) || (decide (z = (⟨#[58, 61]⟩ : Str)) || (decide (z = (⟨#[59]⟩ : Str)) || (decide (z = (⟨#[60]⟩ : Str)) || (decide (z = (⟨#[60, 60]⟩ : Str)) || (decide (z = (⟨#[60, 60, 61]⟩ : Str)) || (decide (z = (⟨#[60, 61]⟩ : Str)) || (decide (z = (⟨#[61]⟩ : Str)) || (decide (z = (⟨#[61, 61]⟩ : Str)) || (decide (z = (⟨#[62]⟩ : Str)) || (decide (z = (⟨#[62, 61]⟩ : Str)) || (decide (z = (⟨#[62, 62]⟩ : Str)) || (decide (z = (⟨#[62, 62, 61]⟩ : Str)) || (decide (z = (⟨#[64]⟩ : Str)) || (decide (z = (⟨#[64, 61]⟩ : Str)) || (decide (z = (⟨#[91]⟩ : Str)) || (decide (z = (⟨#[93]⟩ : Str)) || (decide (z = (⟨#[94]⟩ : Str)) || (decide (z = (⟨#[94, 61]⟩ : Str)) || (decide (z = (⟨#[123]⟩ : Str)) || (decide (z = (⟨#[124]⟩ : Str)) || (decide (z = (⟨#[124, 61]⟩ : Str)) || (decide (z = (⟨#[125]⟩ : Str)) || (decide (z = (⟨#[126]⟩ : Str)) || false))))))))))))))))))))))))))))))))))))))))))))))))
def tabD : List (Str × Int) := [(⟨#[33]⟩, 54), (⟨#[33, 61]⟩, 28), (⟨#[37]⟩, 24), (⟨#[37, 61]⟩, 40), (⟨#[38]⟩, 19), (⟨#[38, 61]⟩, 41), (⟨#[40]⟩, 7), (⟨#[41]⟩, 8), (⟨#[42]⟩, 16), (⟨#[42, 42]⟩, 35), (⟨#[42, 42, 61]⟩, 46), (⟨#[42, 61]⟩, 38), (⟨#[43]⟩, 14), (⟨#[43, 61]⟩, 36), (⟨#[44]⟩, 12), (⟨#[45]⟩, 15), (⟨#[45, 61]⟩, 37), (⟨#[45, 62]⟩, 51), (⟨#[46]⟩, 23), (⟨#[46, 46, 46]⟩, 52), (⟨#[47]⟩, 17), (⟨#[47, 47]⟩, 47), (⟨#[47, 47, 61]⟩, 48), (⟨#[47, 61]⟩, 39), (⟨#[58]⟩, 11), (⟨#[58, 61]⟩, 53), (⟨#[59]⟩, 13), (⟨#[60]⟩, 20), (⟨#[60, 60]⟩, 33), (⟨#[60, 60, 61]⟩, 44), (⟨#[60, 61]⟩, 29), (⟨#[61]⟩, 22), (⟨#[61, 61]⟩, 27), (⟨#[62]⟩, 21), (⟨#[62, 61]⟩, 30), (⟨#[62, 62]⟩, 34), (⟨#[62, 62, 61]⟩, 45), (⟨#[64]⟩, 49), (⟨#[64, 61]⟩, 50), (⟨#[91]⟩, 9), (⟨#[93]⟩, 10), (⟨#[94]⟩, 32), (⟨#[94, 61]⟩, 43), (⟨#[123]⟩, 25), (⟨#[124]⟩, 18), (⟨#[124, 61]⟩, 42), (⟨#[125]⟩, 26), (⟨#[126]⟩, 31)]
theorem inD_eq (z : Str) : inD z = tabD.any (fun p => decide (z = p.1)) := rfl
theorem inD_iff {z : Str} : inD z = true ↔ ∃ n, (z, n) ∈ tabD := by
  rw [inD_eq, List.any_eq_true]
  constructor
  · rintro ⟨⟨a, b⟩, h1, h2⟩
    have : z = a := by simpa using h2
    exact ⟨b, this ▸ h1⟩
  · rintro ⟨n, h⟩
    exact ⟨_, h, by simp⟩
def slc (y : Str) (n : Int) : Str := Txt.slice y none (some n)
def piecesL (y : Str) : List Str := [Txt.slice y none (some 3), Txt.slice y none (some 2), Txt.slice y none (some 1)].filter inD
theorem with_fin {prog : Program} {w : World} {A : Around} {h₀ : Heap} {L : Addr} {m : Str → Option Value} {env : Env} {ct elt : PySem.Expr} {x : Str} {scope : Scope} {cl : List (Str × Addr)} {s : Shared} {S : List (Addr × Obj) → Prop} {P : Nat → Value → Prop} {Fin : List Value → List (Addr × Obj) → Prop} {n i : Nat} {ys₀ : List Value} {news : List (Addr × Obj)} {R : List Value → Prop}
    (h : (∀ ys, R ys → Fin ys news) → LCt.CompRestT prog w A h₀ L m env ct elt x scope cl s S P Fin n i ys₀ news) (f : ∀ ys, R ys → Fin ys news) : LCt.CompRestT prog w A h₀ L m env ct elt x scope cl s S P Fin n i ys₀ news := h f
theorem tab_read {w : World} {h : Heap} (X : (Mine.hd.heap_39 w.params).In h) : StrTab PySem.Challenge.rw_il0204_01.row.prog w h 233 ((tabD.map fun p => (p.1, PyData.int p.2)).map fun p => (PyData.str p.1, p.2)) :=
  kt_tab_in _ w X (D := tabD.map fun p => (p.1, PyData.int p.2)) (by kernel_rfl) (by decide) (by kernel_rfl)
def valD (x : Str) : Int := ((tabD.find? fun p => decide (x = p.1)).map (·.2)).getD 0
theorem lookup_D (x : Str) : ∀ D : List (Str × Int), Spec.lookup (.str x) ((D.map fun p => (p.1, PyData.int p.2)).map fun p => (PyData.str p.1, p.2)) = ((D.find? fun p => decide (x = p.1)).map (fun p => PyData.int p.2))
  | [] => rfl
  | (a, n) :: D => by
    have ih := lookup_D x D
    simp only [List.map_cons, Spec.lookup, List.find?_cons]
    by_cases h : x = a
    · subst h; simp [Spec.same]
    · have h2 : ¬ a = x := fun e => h e.symm
      simp [Spec.same, h, h2]
      simpa using ih
theorem isSome_D (x : Str) : ((tabD.find? fun p => decide (x = p.1)).map (fun p => PyData.int p.2)).isSome = inD x := by
  rw [inD_eq, Option.isSome_map, Bool.eq_iff_iff, List.any_eq_true, List.find?_isSome]
section
variable {w : World} {A : Around} {E : Value → Shared → Prop} {s : Shared} {h₀ : Heap} {L : Addr} {m : Str → Option Value} {x : Str} {t : Tok} {value slice : PySem.Expr} {Q : Value → Shared → Prop}
theorem my_inD (F : Fr h₀ L s.heap m) (X : (Mine.hd.heap_39 w.params).In h₀) (h : ∀ tk, Q (.bool (inD x)) { s with toks := tk }) : wpAny (model PySem.Challenge.rw_il0204_01.row.prog w) A (compareOp .In (.str x t) (.ref 233)) Q E s :=
  in_strTab (tab_read (X.keeps F.keep)) (by rw [lookup_D, isSome_D]; exact h _)
theorem my_itemD (F : Fr h₀ L s.heap m) (X : (Mine.hd.heap_39 w.params).In h₀) (hx : inD x = true) (h : ∀ u tk, Q (.int (valD x) u) { s with toks := tk })
    (hs : subscripted slice false (.ref 233) (.str x t) = operate [.ref 233, .str x t] (getItem (.ref 233) (.str x t)) := by with_unfolding_all rfl) (hg : ∀ r, letTemporaryGo value (.ref 233) r = pure () := by intro _; with_unfolding_all rfl) :
    wpAny (model PySem.Challenge.rw_il0204_01.row.prog w) A (subscriptTail value slice (.ref 233) (.str x t)) Q E s := by
  have hl : Spec.lookup (.str x) ((tabD.map fun p => (p.1, PyData.int p.2)).map fun p => (PyData.str p.1, p.2)) = some (.int (valD x)) := by
    rw [lookup_D]
    rw [← isSome_D] at hx
    cases hf : (tabD.find? fun p => decide (x = p.1)) with
    | none => rw [hf] at hx; cases hx
    | some p => simp [valD, hf]
  refine item_strTab (tab_read (X.keeps F.keep)) hl (fun v hv => ?_) hs hg
  obtain ⟨u, rfl⟩ := PyProof.V.Flat.int_inv hv
  exact h u _
end
def alnumAt (y : Str) (n : Int) : Bool := Txt.isalnum (Txt.slice y (some n) (some (n + 1)))
inductive ReadsTo : Str → List Dat → Prop
  | nil : ReadsTo (Str.ofString "") []
  | word {y : Str} {n : Int} {ts : List Dat} : y ≠ Str.ofString "" → piecesL y = [] → 1 ≤ n → n ≤ 1000 → (∀ k, 1 ≤ k → k < n → alnumAt y k = true) → alnumAt y n = false → ReadsTo (Txt.slice y (some n) none) ts → ReadsTo y (Dat.str (Txt.slice y none (some n)) :: ts)
  | op {y p : Str} {ps : List Str} {ts : List Dat} : y ≠ Str.ofString "" → piecesL y = p :: ps → ReadsTo (Txt.slice y (some (p.length : Int)) none) ts → ReadsTo y (Dat.int (valD p) :: ts)
theorem strs_dat {news : List (Addr × Obj)} {vs : List Value} {ss : List Str} (h : StrsAre vs ss) : DatAll news vs (ss.map Dat.str) := by
  induction h with
  | nil => exact .nil
  | cons y t _ ih => exact .cons (.str y t) ih
theorem strOk_D : ∀ {p : Str}, inD p = true → PyData.strOk p = true := by
  intro p hp
  obtain ⟨n, hn⟩ := inD_iff.mp hp
  have : ∀ q ∈ tabD, PyData.strOk q.1 = true := by decide +kernel
  exact this _ hn
theorem newExc_of {h h₁ h' : Heap} {e : Addr} {c : String} (k : ∀ b o, h.get? b = some o → h₁.get? b = some o) (x : Heap.NewExc h₁ h' e c) : Heap.NewExc h h' e c := by
  obtain ⟨k1, n1, t1⟩ := x
  refine ⟨fun b o hb => k1 b o (k b o hb), ?_, t1⟩
  cases q : h.get? e with
  | none => rfl
  | some o => rw [k e o q] at n1; cases n1
section
variable {prog : Program} {w : World} {A : Around} {E : Value → Shared → Prop} {s : Shared}
set_option maxHeartbeats 1000000 in
theorem unpack_few {t : Addr} {x : Value} {Q : List Value → Shared → Prop} (hh : A.handled = none) (ht : IsTup s.heap t #[x])
    (hE : ∀ h' tk e, Heap.NewExc s.heap h' e "ValueError" → E (.ref e) { s with heap := h', toks := tk }) : wpAny (model prog w) A (unpackItems (.ref t) 2 none) Q E s := by
  have hlt : t ≠ s.heap.objs.size := by obtain ⟨o, ho, _⟩ := ht; exact Nat.ne_of_lt (Heap.lt_size ho)
  unfold unpackItems
  refine wpAny_bind ?_
  unfold notIterableAtAll
  refine wpAny_bind (wpAny_specialOf ht.typeIs slot_tuple_iter.lookup ?_)
  refine wpAny_pure ?_
  simp only [Bool.false_eq_true, if_false]
  refine wpAny_bind (wpAny_holding (iter_tuple ht ?_))
  refine wpAny_bind (wpAny_holding ?_)
  have hp := ht.push { cls := .type "tuple_iterator", data := .fields #[.ref t, .int 0 0] }
  show wpAny _ _ (pyNext _ >>= _) _ _ _
  refine wpAny_bind (next_tuple_item ⟨_, Heap.get?_push_size _ rfl, rfl, rfl⟩ hp (x := x) (by simp) fun h₁ hit₁ hs₁ => ?_)
  refine wpAny_bind (wpAny_holding ?_)
  show wpAny _ _ (pyNext _ >>= _) _ _ _
  have ht₁ : IsTup h₁ t #[x] := hp.extBut hs₁.extBut hlt
  refine wpAny_bind (next_tuple_end hh hit₁ ht₁ (by simp) fun h₂ he₂ => ?_)
  refine wpAny_pure (wpAny_pure ?_)
  rw [if_pos (by simp)]
  have kp : ∀ b o, s.heap.get? b = some o → h₂.get? b = some o := fun b o e => by
    have hb : b ≠ s.heap.objs.size := Nat.ne_of_lt (Heap.lt_size e)
    exact he₂ b o hb (hs₁.extBut b o hb (Heap.get?_push_of_some _ e))
  refine wpAny_bind (wpAny_rule ?_)
  exact wpAny_bind (wpAny_raiseErrorMade plainExc_ValueError hh (fun h' tk e xx => hE h' tk e (newExc_of kp xx)) (by simp only [List.length_singleton]; decide +kernel))
set_option maxHeartbeats 1000000 in
theorem unpack_many {t : Addr} {x y z : Value} {Q : List Value → Shared → Prop} (hh : A.handled = none) (ht : IsTup s.heap t #[x, y, z])
    (hE : ∀ h' tk e, Heap.NewExc s.heap h' e "ValueError" → E (.ref e) { s with heap := h', toks := tk }) : wpAny (model prog w) A (unpackItems (.ref t) 2 none) Q E s := by
  have hlt : t ≠ s.heap.objs.size := by obtain ⟨o, ho, _⟩ := ht; exact Nat.ne_of_lt (Heap.lt_size ho)
  unfold unpackItems
  refine wpAny_bind ?_
  unfold notIterableAtAll
  refine wpAny_bind (wpAny_specialOf ht.typeIs slot_tuple_iter.lookup ?_)
  refine wpAny_pure ?_
  simp only [Bool.false_eq_true, if_false]
  refine wpAny_bind (wpAny_holding (iter_tuple ht ?_))
  refine wpAny_bind (wpAny_holding ?_)
  have hp := ht.push { cls := .type "tuple_iterator", data := .fields #[.ref t, .int 0 0] }
  refine draw_tuple hlt 2 0 _ _ ⟨_, Heap.get?_push_size _ rfl, rfl, rfl⟩ hp (by simp) fun h₁ hit₁ hs₁ => ?_
  have ht₁ : IsTup h₁ t #[x, y, z] := hp.extBut hs₁.extBut hlt
  have kp : ∀ b o, s.heap.get? b = some o → h₁.get? b = some o := fun b o e => by
    have hb : b ≠ s.heap.objs.size := Nat.ne_of_lt (Heap.lt_size e)
    exact hs₁.extBut b o hb (Heap.get?_push_of_some _ e)
  rw [if_neg (by simp)]
  refine wpAny_bind (wpAny_holding (next_tuple_item hit₁ ht₁ (x := z) rfl fun h₂ hit₂ hs₂ => ?_))
  have kp₂ : ∀ b o, s.heap.get? b = some o → h₂.get? b = some o := fun b o e => by
    have hb : b ≠ s.heap.objs.size := Nat.ne_of_lt (Heap.lt_size e)
    exact hs₂.extBut b o hb (kp b o e)
  simp only [Option.isSome_some, if_true]
  refine wpAny_bind (wpAny_rule ?_)
  refine wpAny_bind ?_
  exact_raiseError plainExc_ValueError hh (fun h' tk e xx => hE h' tk e (newExc_of kp₂ xx))
set_option maxHeartbeats 1000000 in
set_option maxRecDepth 100000 in
theorem unpack_int {i : Int} {u : Tok} {Q : List Value → Shared → Prop} (hh : A.handled = none)
    (hE : ∀ h' tk e, Heap.NewExc s.heap h' e "TypeError" → E (.ref e) { s with heap := h', toks := tk }) : wpAny (model prog w) A (unpackItems (.int i u) 2 none) Q E s := by
  unfold unpackItems
  refine wpAny_bind ?_
  unfold notIterableAtAll
  refine wpAny_bind (wpAny_specialOf (name := "__iter__") (typeIs_int s i u) (r := none) (by rw [typeLookup_type, builtinLookup_eq_fast]; kernel_rfl) ?_)
  simp only [Option.isSome_none, Bool.false_eq_true, if_false]
  refine wpAny_bind (wpAny_specialOf (name := "__getitem__") (typeIs_int s i u) (r := none) (by rw [typeLookup_type, builtinLookup_eq_fast]; kernel_rfl) ?_)
  refine wpAny_pure ?_
  simp only [if_true]
  refine wpAny_bind (wpAny_rule ?_)
  refine wpAny_bind (wpAny_typeNameOf' (typeIs_int s i u) (by decide) ?_)
  exact wpAny_bind (wpAny_raiseTypeError hh hE (by rw [show shownName "int" = "int" from by decide +kernel]; decide +kernel))
set_option maxHeartbeats 1000000 in
set_option maxRecDepth 100000 in
theorem add_str_int {x : Str} {i : Int} {t u : Tok} {Q : Value → Shared → Prop} (hh : A.handled = none)
    (hE : ∀ h' tk e, Heap.NewExc s.heap h' e "TypeError" → E (.ref e) { s with heap := h', toks := tk }) : wpAny (model prog w) A (binaryOp .Add (.str x t) (.int i u)) Q E s := by
  have hslot : Slot "int" (dunderR "add") "int.__radd__" :=
    .of (owner := "int") (n := "__radd__") (by rw [typeLookup_type, builtinLookup_eq_fast]; kernel_rfl) (by decide +kernel) (by decide +kernel) (by decide +kernel)
      (by first | exact .inl (by decide +kernel) | exact .inr (by decide +kernel)) (by rw [isSubtype_type]; kernel_rfl)
  unfold binaryOp
  refine wpAny_holding ?_
  refine wpAny_bind (wpAny_binaryOp1_right_declines (nm := "add") (T := "str") (U := "int") (by decide) (typeIs_str s x t) (typeIs_int s i u) PyProof.Rows.noFill_str_add fills_int_add hslot
    (call_gives (B := Builtin.«int.__radd__») (m := .val .notImplemented) hslot (typeIs_int s i u) (entryFor_of_fast (by kernel_rfl)) (by unfold argsOk; kernel_rfl) (.of_wp fun M A E s Q h => by obtain ⟨hp, g, d, tk, os⟩ := s; wp_walk; exact ⟨_, rfl, h⟩) ⟨rfl, ?_⟩))
  refine wpAny_bind (wpAny_typeOf (typeIs_str s x t) ?_)
  refine wpAny_bind (wpAny_of_eq PyProof.Rows.seq_str_add ?_)
  refine wpAny_bind (wpAny_rule ?_)
  refine wpAny_call_entry PySem.F.slot_str_add (typeIs_str s x t) PySem.F.entry_str_add ?_ (PySem.F.args_str_add_2 _ _)
  show wpAny _ _ (do rule "str.__add__.not-a-str"; raiseError "TypeError" s!"can only concatenate str (not \"{← typeNameOf (.int i u)}\") to str") _ _ s
  refine wpAny_bind (wpAny_rule ?_)
  refine wpAny_bind (wpAny_typeNameOf' (typeIs_int s i u) (by decide) ?_)
  exact wpAny_raiseTypeError hh hE (by rw [show shownName "int" = "int" from by decide +kernel]; decide +kernel)
set_option maxHeartbeats 1000000 in
set_option maxRecDepth 100000 in
theorem add_int_str {x : Str} {i : Int} {t u : Tok} {Q : Value → Shared → Prop} (hh : A.handled = none)
    (hE : ∀ h' tk e, Heap.NewExc s.heap h' e "TypeError" → E (.ref e) { s with heap := h', toks := tk }) : wpAny (model prog w) A (binaryOp .Add (.int i u) (.str x t)) Q E s := by
  unfold binaryOp
  refine wpAny_holding ?_
  refine wpAny_bind ?_
  · show wpAny _ _ (binaryOp1 "add" (.int i u) (.str x t)) _ _ _
    simp only [binaryOp1]
    refine wpAny_bind (wpAny_typeOf (typeIs_int s i u) (wpAny_bind (wpAny_typeOf (typeIs_str s x t) (wpAny_bind (wpAny_of_eq fills_int_add ?_)))))
    simp only [show (Value.type "int" == Value.type "str") = false from by decide, Bool.false_eq_true, if_false]
    refine wpAny_bind (wpAny_of_eq PyProof.Rows.noFill_str_add ?_)
    simp only [pure_bind, Bool.and_false, Bool.false_and, Bool.false_eq_true, if_false, if_true]
    with_reducible refine wpAny_bind (wpAny_tryMethod_declines (typeIs_int s i u) slot_int_add ?tc)
    refine call_gives (B := Builtin.«int.__add__») (m := .val .notImplemented) slot_int_add (typeIs_int s i u) entry_int_add (args_int_add _ _) (.of_wp fun M A E s Q h => by obtain ⟨hp, g, d, tk, os⟩ := s; wp_walk; exact ⟨_, rfl, h⟩) ⟨rfl, ?_⟩
    refine wpAny_pure ?_
    have hs : seqSlot? (.type "int") "__add__" = pure none := by
      have e : typeLookup (.type "int") "__add__" = pure (some (.builtin "int.__add__")) := by rw [typeLookup_type, builtinLookup_eq_fast]; kernel_rfl
      unfold seqSlot?
      rw [e]
      have e2 : isSeqSlot (some (.builtin "int.__add__")) = false := by decide +kernel
      simp only [pure_bind, e2]; rfl
    refine wpAny_bind (wpAny_typeOf (typeIs_int s i u) ?_)
    refine wpAny_bind (wpAny_of_eq hs ?_)
    unfold binopTypeError
    show wpAny _ _ (do rule "binop.unsupported"; raiseError "TypeError" s!"unsupported operand type(s) for {"+"}: '{← typeNameOf (.int i u)}' and '{← typeNameOf (.str x t)}'") _ _ s
    refine wpAny_bind (wpAny_rule ?_)
    refine wpAny_bind (wpAny_typeNameOf' (typeIs_int s i u) (by decide) ?_)
    refine wpAny_bind (wpAny_typeNameOf' (typeIs_str s x t) (by decide) ?_)
    exact wpAny_raiseTypeError hh hE (by rw [show shownName "int" = "int" from by decide +kernel, show shownName "str" = "str" from by decide +kernel]; decide +kernel)
theorem assign_few {env : Env} {elts : List Expr} {kk} {pos : Pos} {h₀ : Heap} {L t : Addr} {news : List (Addr × Obj)} {x : Value} {n : Tok} {Q : Unit → Shared → Prop} (N : News h₀ L s.heap news) (hm : (t, ({ cls := .type "tuple", data := .seq [x].toArray n } : Obj)) ∈ news) (hh : A.handled = none)
    (hn : (assignEach elts env).length = 2) (hstar : (assignEach elts env).findIdx? (·.1) = none) (hE : ∀ h' tk e, Heap.NewExc s.heap h' e "ValueError" → E (.ref e) { s with heap := h', toks := tk }) :
    wpAny (model prog w) A (assign (.Tuple elts kk pos) env (.ref t)) Q E s := by
  rw [assign_Tuple]
  refine wpAny_bind (wpAny_standAt ?_)
  unfold unpack
  rw [hn, hstar]
  exact wpAny_bind (wpAny_holding (unpack_few (x := x) hh ⟨_, (N _ hm).1, rfl, n, rfl⟩ hE))
theorem assign_many {env : Env} {elts : List Expr} {kk} {pos : Pos} {h₀ : Heap} {L t : Addr} {news : List (Addr × Obj)} {x y z : Value} {n : Tok} {Q : Unit → Shared → Prop} (N : News h₀ L s.heap news) (hm : (t, ({ cls := .type "tuple", data := .seq [x, y, z].toArray n } : Obj)) ∈ news) (hh : A.handled = none)
    (hn : (assignEach elts env).length = 2) (hstar : (assignEach elts env).findIdx? (·.1) = none) (hE : ∀ h' tk e, Heap.NewExc s.heap h' e "ValueError" → E (.ref e) { s with heap := h', toks := tk }) :
    wpAny (model prog w) A (assign (.Tuple elts kk pos) env (.ref t)) Q E s := by
  rw [assign_Tuple]
  refine wpAny_bind (wpAny_standAt ?_)
  unfold unpack
  rw [hn, hstar]
  exact wpAny_bind (wpAny_holding (unpack_many (x := x) (y := y) (z := z) hh ⟨_, (N _ hm).1, rfl, n, rfl⟩ hE))
theorem assign_int {env : Env} {elts : List Expr} {kk} {pos : Pos} {i : Int} {u : Tok} {Q : Unit → Shared → Prop} (hh : A.handled = none)
    (hn : (assignEach elts env).length = 2) (hstar : (assignEach elts env).findIdx? (·.1) = none) (hE : ∀ h' tk e, Heap.NewExc s.heap h' e "TypeError" → E (.ref e) { s with heap := h', toks := tk }) :
    wpAny (model prog w) A (assign (.Tuple elts kk pos) env (.int i u)) Q E s := by
  rw [assign_Tuple]
  refine wpAny_bind (wpAny_standAt ?_)
  unfold unpack
  rw [hn, hstar]
  exact wpAny_bind (wpAny_holding (unpack_int hh hE))
end
def Own (B : Heap) (l : List Env) (e : Addr) (oe : Obj) (h : Heap) : Prop :=
  B.StaysIn h ∧ h.FunFrames B l ∧ B.get? e = none ∧ h.get? e = some oe ∧ ∃ T oT ts vs, oe.data = .fields vs ∧ vs[1]? = some (.ref T) ∧ B.get? T = none ∧ T ≠ e ∧ h.get? T = some oT ∧ oT.data = .fields ts ∧ 3 < ts.size
theorem Own.keeps {B h h' : Heap} {l : List Env} {e : Addr} {oe : Obj} (x : Own B l e oe h) (k : ∀ b o, h.get? b = some o → h'.get? b = some o) : Own B l e oe h' := by
  obtain ⟨k1, k2, k3, k4, T, oT, ts, vs, a, b, c, d, e1, f⟩ := x
  exact ⟨fun b o q => k _ _ (k1 b o q), k2.of_keeps fun b o q _ => ⟨o, k _ _ q, rfl⟩, k3, k _ _ k4, T, oT, ts, vs, a, b, c, d, k _ _ e1, f⟩
section
variable {M : Model} {A : Around} {E : Value → Shared → Prop} {s : Shared} {B : Heap} {l : List Env} {env : Env} {outer : List Env} {L e : Addr} {oe : Obj} {vs : Array Value}
theorem land_own {Q : Unit → Shared → Prop} (x : Own B l e oe s.heap) (h : ∀ h', Own B l e oe h' → s.heap.UpToSlots h' → Q () { s with heap := h' }) : wpAny M A (setFlight (.ref e) none) Q E s := by
  obtain ⟨k1, k2, k3, k4, T, oT, ts, vs, hd, h1, hTB, hTe, hT, hdT, h3⟩ := x
  unfold setFlight
  refine wpAny_bind (wpAny_field k4 hd h1 ?_)
  rw [if_pos (show (Value.ref T != Value.none) = true from by simp)]
  have away : ∀ b, b ≠ T → (s.heap.update T (Obj.mapFields (·.setIfInBounds 3 ((none : Option Addr).elim Value.none fun f => rawInt f)))).get? b = s.heap.get? b := fun b hb => Heap.get?_update_other _ _ (Ne.symm hb)
  have nofields : ∀ b o, s.heap.get? b = some o → (∀ vs, o.data ≠ .fields vs) → b ≠ T := fun b o hb hn q => by
    rw [q, hT] at hb; cases hb; exact hn _ hdT
  refine wpAny_setField hT hdT h3 (h _ ⟨fun b o q => ?_, k2.of_keeps fun b o q hn => ⟨o, (away b (nofields b o q hn)).trans q, rfl⟩, k3, (away e (Ne.symm hTe)).trans k4, T, _, _, vs, hd, h1, hTB, hTe, Heap.get?_update_self _ hT (Obj.isFreed_of_fields (Obj.data_mapFields hdT _)), Obj.data_mapFields hdT _, by simpa using h3⟩ fun b o q hn => ⟨o.slots, (away b (nofields b o q hn)).trans q⟩)
  exact (away b fun z => by rw [z, hTB] at q; cases q).trans (k1 b o q)
theorem note_new {Q : Unit → Shared → Prop} (hfr : A.frames = some (env :: outer)) (hl : s.heap.FunFrames B (env :: outer)) (hf : env.frame = some L)
    (he : s.heap.get? e = some oe) (hkb : B.StaysIn s.heap) (hen : B.get? e = none) (hd : oe.data = .fields vs) (h1 : vs[1]? = some .none)
    (h : ∀ h' T, Own B (env :: outer) e (oe.mapFields (·.setIfInBounds 1 (.ref T))) h' → s.heap.UpToSlots h' → Q () { s with heap := h' }) : wpAny M A (noteFrame (.ref e) env) Q E s := by
  have hsz : 1 < vs.size := (Array.getElem?_eq_some_iff.mp h1).1
  have hne : e ∉ (env :: outer).filterMap (·.frame) := fun hm => by
    obtain ⟨_, o, ho, hnf⟩ := hl.mem hm
    rw [he] at ho; cases ho; exact hnf vs hd
  unfold noteFrame
  simp only [hf]
  refine wpAny_bind (wpAny_field he hd h1 ?_)
  rw [if_neg (by decide)]
  refine wpAny_bind (wpAny_frameOf_fun hfr hl hf fun h₁ hs₁ => ?_)
  refine wpAny_bind (wpAny_entryPlaceOf fun pl hpl => ?_)
  unfold EntryCells.newEntry newFields
  refine wpAny_bind (wpAny_newObj_type ?_ (hpl.sizeOk5 _ _ _ _ _))
  have e₁ : h₁.get? e = some oe := (hs₁.2.1 e hne).trans he
  have s₁ : B.StaysIn h₁ := fun b o q => (hs₁.2.1 b fun hm => by rw [(hl.mem hm).1] at q; cases q).trans (hkb b o q)
  generalize ho : ({ cls := .type "traceback", dict := none, data := .fields ([Value.none, .ref L, .none, rawInt L, .none] ++ (if pl.isEmpty then List.replicate 6 Value.none else pl)).toArray } : Obj) = ot
  have e₂ := Heap.get?_push_of_some ot e₁
  have t₂ : (h₁.push ot).get? h₁.objs.size = some ot := Heap.get?_push_size h₁ (by subst ho; rfl)
  have hTe : h₁.objs.size ≠ e := Nat.ne_of_gt (Heap.lt_size e₁)
  refine wpAny_setField e₂ hd hsz (h _ h₁.objs.size ?_ ?_)
  · have d₃ := Obj.data_mapFields hd (·.setIfInBounds 1 (Value.ref h₁.objs.size))
    have away : ∀ b, b ≠ e → ((h₁.push ot).update e (Obj.mapFields (·.setIfInBounds 1 (.ref h₁.objs.size)))).get? b = (h₁.push ot).get? b := fun b hb => Heap.get?_update_other _ _ (Ne.symm hb)
    refine ⟨fun b o q => (away b fun z => by rw [z, hen] at q; cases q).trans (Heap.get?_push_of_some _ (s₁ b o q)), hl.of_keeps fun b o q hn => ?_, hen, Heap.get?_update_self _ e₂ (Obj.isFreed_of_fields d₃), h₁.objs.size, ot, _, _, d₃, by simp [hsz], s₁.fresh, hTe, (away _ hTe).trans t₂, by subst ho; rfl, ?_⟩
    · obtain ⟨sl, hs⟩ := hs₁.2.2 b o q
      exact ⟨_, (away b fun z => by rw [z, he] at q; cases q; exact hn vs hd).trans (Heap.get?_push_of_some _ hs), rfl⟩
    · simp only [List.size_toArray, List.length_append, List.length_cons, List.length_nil]; omega
  · intro b o q hn
    obtain ⟨sl, hs⟩ := hs₁.2.2 b o q
    exact ⟨sl, (Heap.get?_update_other _ _ (fun z => by rw [← z, he] at q; cases q; exact hn vs hd)).trans (Heap.get?_push_of_some _ hs)⟩
end
section
variable {prog : Program} {w : World} {A : Around} {E : Value → Shared → Prop} {s : Shared} {env : Env} {e : Addr} {oe : Obj} {vs : Array Value} {mg mb : Str → Option Value} {msg : Str} {np cpos pos p0 p1 : Pos} {k0 k1 : Nat} {Q : Flow → Shared → Prop}
set_option maxHeartbeats 1000000 in
theorem raise_from (hh : A.handled = some (.ref e)) (he : s.heap.get? e = some oe) (hd : oe.data = .fields vs) (h2 : vs[2]? = some .none)
    (hk : env.scope.kind = .function) (hx : env.kindOf (Str.ofString "TypeError") = some .globalImplicit) (hg : s.heap.Ns env.globals mg) (hb : s.heap.Ns env.builtins mb) (hm : mg (Str.ofString "TypeError") = none) (hv : mb (Str.ofString "TypeError") = some (.type "TypeError"))
    (hE : ∀ h' tk e2 t u, (∀ b o, s.heap.get? b = some o → h'.get? b = some o) → s.heap.get? e2 = none → s.heap.get? t = none → h'.get? e2 = some { cls := .type "TypeError", data := .fields #[.ref t, .none, .ref e, .none, .bool true, .none] } → h'.get? t = some { cls := .type "tuple", data := .seq [.str msg u].toArray } → E (.ref e2) { s with heap := h', toks := tk }) :
    wpAny (model prog w) A (exec (.Raise (some (.Call (.Name (Str.ofString "TypeError") np) [.Constant (.str msg) k0 p0] [] cpos)) (some (.Constant .none k1 p1)) pos) env) Q E s := by
  rw [arm_exec_Raise]
  refine wpAny_bind (wpAny_standAt ?_)
  simp only [evalOpt, Option.map]
  unfold raiseStmt
  refine wpAny_bind (wpAny_bind (wpAny_Call_ofName (PySem.Calls.Name_function_global hk hx (PySem.Calls.loadGlobal_builtin hg hm hb hv ?_) (by decide))))
  refine callWith_excType (by rfl) ?_
  refine PySem.Calls.evalArgs_plain (wpAny_items_cons (pos := cpos) (wpAny_Constant_str (wpAny_items_nil ?_)))
  obtain ⟨hp, g, d, tk, os⟩ := s
  refine wpAny_call_exc PySem.F.excCall_TypeError fun h₁ e2 hm => ?_
  obtain ⟨t, he2, htn, ht⟩ := hm.there
  refine wpAny_bind (wpAny_standAt (wpAny_pure ?_))
  refine wpAny_bind (wpAny_holding (wpAny_bind (wpAny_Constant_none (wpAny_bind (wpAny_standAt (wpAny_pure (wpAny_bind (wpAny_pure ?_))))))))
  have hsub := PySem.F.excRaise_TypeError.isExc
  have hmeta := PySem.F.excRaise_TypeError.plainMeta
  have hnt := PySem.F.notTuple_TypeError
  have X1 : ∀ {Q : Value → Shared → Prop} {E : Value → Shared → Prop} {tk} {c : String}, Q (.ref e2) ⟨h₁, g, d, tk, os⟩ → wpAny (model prog w) A (excFromValue (.ref e2) c) Q E ⟨h₁, g, d, tk, os⟩ := fun {Q E tk c} hq => by
    unfold excFromValue
    repeat (first | refine wpAny_loadPart he2 ?_ | wp_step)
    exact hq
  refine wpAny_bind (wpAny_holding (X1 ?_))
  dsimp only
  rw [if_pos (show (Value.none == Value.none) = true from by decide)]
  refine wpAny_bind (wpAny_pure ?_)
  have he3 := Heap.get?_update_self (Obj.mapFields (·.setIfInBounds 3 Value.none)) he2 rfl
  have he4 := Heap.get?_update_self (Obj.mapFields (·.setIfInBounds 4 (.bool true))) he3 rfl
  refine wpAny_bind (wpAny_setField he2 rfl (by simp) ?_)
  refine wpAny_bind (wpAny_setField he3 rfl (by simp) ?_)
  dsimp only
  have away : ∀ b, b ≠ e2 → ((h₁.update e2 (Obj.mapFields (·.setIfInBounds 3 Value.none))).update e2 (Obj.mapFields (·.setIfInBounds 4 (.bool true)))).get? b = h₁.get? b := fun b hb => (Heap.get?_update_ne _ _ _ _ hb).trans (Heap.get?_update_ne _ _ _ _ hb)
  generalize (h₁.update e2 (Obj.mapFields (·.setIfInBounds 3 Value.none))).update e2 (Obj.mapFields (·.setIfInBounds 4 (.bool true))) = h₂ at he4 away ⊢
  have he5 : h₂.get? e2 = some { cls := .type "TypeError", data := .fields #[.ref t, .none, .none, .none, .bool true, .none] } := he4
  have hne : e ≠ e2 := fun z => by have := hm.new; rw [← z] at this; rw [this] at he; cases he
  have hnt2 : t ≠ e2 := fun z => by rw [z, he2] at ht; exact absurd (congrArg Obj.cls (Option.some.inj ht)) (by simp)
  have hee : h₂.get? e = some oe := (away e hne).trans (hm.keeps _ _ he)
  repeat (first | refine wpAny_loadPart he5 ?_ | wp_step)
  unfold raiseNew
  refine wpAny_bind (wpAny_handled ?_)
  rw [hh]
  dsimp only
  rw [if_pos (show (Value.ref e != Value.ref e2) = true from by simpa using hne)]
  refine wpAny_bind (wpAny_holding (wpAny_runValue (codeAny_builtin (b := Builtin.«proto.unchain») (entryFor_of_fast (by kernel_rfl)) ?_)))
  unfold Builtin.«proto.unchain»
  refine wpAny_bind (wpAny_field hee hd h2 ?_)
  rw [if_pos (show (Value.none == Value.none) = true from by decide)]
  refine wpAny_bind (wpAny_pure ?_)
  refine wpAny_pure ?_
  show wpAny (model prog w) A (setField (.ref e2) 2 (.ref e) >>= fun _ => throw (.ref e2)) Q E _
  refine wpAny_bind (wpAny_setField he5 rfl (by simp) (wpAny_throw ?_))
  have he6 := Heap.get?_update_self (Obj.mapFields (·.setIfInBounds 2 (Value.ref e))) he5 rfl
  refine hE _ _ e2 t tk (fun b o q => ?_) hm.new htn he6 ?_
  · have hb2 : b ≠ e2 := fun z => by have := hm.new; rw [← z] at this; rw [this] at q; cases q
    exact (Heap.get?_update_ne _ _ _ _ hb2).trans ((away b hb2).trans (hm.keeps b o q))
  · exact (Heap.get?_update_ne _ _ _ _ hnt2).trans ((away t hnt2).trans ht)
end
def RaisedC (base g : Heap) (env : Env) (outer : List Env) (e : Addr) (cls : Value) (t : Addr) (vs : List Value) (news : List (Addr × Obj)) (h : Heap) : Prop :=
  (∃ B oe ws, base.StaysIn B ∧ (∀ b o, g.get? b = some o → b ∉ outer.filterMap (·.frame) → B.get? b = some o) ∧ (∀ q ∈ news, B.get? q.1 = some q.2 ∧ g.get? q.1 = none ∧ base.get? q.1 = none) ∧ B.StaysIn h ∧ h.FunFrames B (env :: outer) ∧ B.get? e = none ∧ B.get? t = none ∧
    h.get? e = some oe ∧ oe.cls = cls ∧ oe.data = .fields ws ∧ ws[1]? = some .none ∧ ws[0]? = some (.ref t)) ∧ h.TupAt t vs ∧ g.UpToSlots h
section
variable {M : Model} {A : Around} {E : Value → Shared → Prop} {s' : Shared} {base g h : Heap} {outer : List Env} {L a e t : Addr} {m : Str → Option Value} {name : Str} {scope : Scope} {cd cls : Value} {vs : List Value} {Q : Unit → Shared → Prop} {news : List (Addr × Obj)}
theorem leave_C (K : Below A base outer g) (R : RaisedC base g (envOf name scope L a cd) outer e cls t vs news s'.heap)
    (hQ : ∀ h', RaisedS base g outer e cls t vs news h' → RaisedK base outer e cls t vs news h' → g.UpToSlots h' → Q () { s' with heap := h' }) :
    wpAny M (A.deeper (envOf name scope L a cd)) (leaving (envOf name scope L a cd) (.ref e)) Q E s' := by
  obtain ⟨⟨B, oe, ws, hB, hg, hn, hBh, hfr, he, ht, hoe, hc, hd, h1, h0⟩, hT, hU⟩ := R
  subst hc
  refine wpAny_leaving_firstW (a0 := .ref t) (Around.frames_deeper K.stack) hfr rfl hoe hBh he hd h1 h0 fun h' hL => ?_
  obtain ⟨k1, ⟨_, _, k2⟩, k3, k4⟩ := hL
  have R : RaisedS base g outer e oe.cls t vs news h' := ⟨⟨B, hB, hg, hn, ⟨k1, he, k2, k3⟩, ht⟩, hT.of_slots k4⟩
  exact hQ h' R R.toK (hU.trans k4)
end
section
variable {prog : Program} {w : World} {A : Around} {E : Value → Shared → Prop} {s' : Shared} {base g h : Heap} {outer : List Env} {L a e t : Addr} {m : Str → Option Value} {name : Str} {scope : Scope} {cd cls : Value} {vs : List Value} {Q : Flow → Shared → Prop} {news : List (Addr × Obj)}
  {p1 p2 p3 p4 p5 cpos pos tpos hpos : Pos} {k0 k1 kk : Nat} {rest : List ExceptHandler} {mg mb : Str → Option Value} {msg : Str} {X : String}
set_option maxHeartbeats 1000000 in
theorem refuse (hX : X = "TypeError" ∨ X = "ValueError") (K : Below A base outer g) (hx : Heap.NewExc h s'.heap e X) (F : Fr g L h m) (N : News g L h news)
    (hg : g.Ns mainGlobals mg) (hb : g.Ns builtinsNs mb) (hm1 : mg (Str.ofString "TypeError") = none) (hv1 : mb (Str.ofString "TypeError") = some (.type "TypeError")) (hm2 : mg (Str.ofString "ValueError") = none) (hv2 : mb (Str.ofString "ValueError") = some (.type "ValueError"))
    (hE : ∀ h' tk e2 t u, RaisedC base g (envOf name scope L a cd) outer e2 (.type "TypeError") t [.str msg u] news h' → E (.ref e2) { s' with heap := h', toks := tk })
    (hk : scope.kind = .function := by rfl) (hx1 : (envOf name scope L a cd).kindOf (Str.ofString "TypeError") = some .globalImplicit := by rfl) (hx2 : (envOf name scope L a cd).kindOf (Str.ofString "ValueError") = some .globalImplicit := by rfl)
    (hP : PassesOwnAt (model prog w) ((A.deeper (envOf name scope L a cd)).mark (some (.ref e))) (A.deeper (envOf name scope L a cd)) (envOf name scope L a cd) E := by passes_own) :
    wpAny (model prog w) (A.deeper (envOf name scope L a cd)) (noteFrame (.ref e) (envOf name scope L a cd))
      (fun _ s₂ => wpAny (model prog w) (A.deeper (envOf name scope L a cd)) (setFlight (.ref e) none) (fun _ s₃ =>
        wpAny (model prog w) (A.deeper (envOf name scope L a cd)) (handleBy (.ref e) (envOf name scope L a cd) (.ExceptHandler (some (.Tuple [.Name (Str.ofString "TypeError") p1, .Name (Str.ofString "ValueError") p2] kk tpos)) none
          [.Raise (some (.Call (.Name (Str.ofString "TypeError") p3) [.Constant (.str msg) k0 p4] [] cpos)) (some (.Constant .none k1 p5)) pos] hpos :: rest)) Q E s₃) E s₂) E s' := by
  have K' := K.push (name := name) (a := a) (cd := cd) F hk
  have hin : ∀ env ∈ (envOf name scope L a cd :: outer), ∀ b, env.frame = some b → b ∈ (envOf name scope L a cd :: outer).filterMap (·.frame) := fun env he b hb => List.mem_filterMap.mpr ⟨env, he, hb⟩
  have st : base.StaysIn (hideAll h ((envOf name scope L a cd :: outer).filterMap (·.frame))) := fun b o q => hideAll_get _ (K'.stays b o q) fun hm => by
    rw [(K'.frames.mem hm).1] at q; cases q
  have sg : ∀ b o, g.get? b = some o → b ∉ outer.filterMap (·.frame) → (hideAll h ((envOf name scope L a cd :: outer).filterMap (·.frame))).get? b = some o := fun b o q nm => hideAll_get _ (F.keep b o q) fun hm => by
    rcases kts_mem hm with z | z
    · rw [z, kts_self F] at q; cases q
    · exact nm z
  have hl : ∀ q ∈ news, (hideAll h ((envOf name scope L a cd :: outer).filterMap (·.frame))).get? q.1 = some q.2 ∧ g.get? q.1 = none ∧ base.get? q.1 = none := fun q hq => by
    refine ⟨hideAll_get _ (N q hq).1 fun hm => ?_, (N q hq).2.2, fresh_of_stays K.stays (N q hq).2.2⟩
    rcases kts_mem hm with z | z
    · exact (N q hq).2.1 z
    · obtain ⟨_, o, ho, _⟩ := K.frames.mem z
      rw [(N q hq).2.2] at ho; cases ho
  obtain ⟨ob, tp, he, hcls, hd⟩ := hx.there
  have hkb : Heap.StaysIn (hideAll h ((envOf name scope L a cd :: outer).filterMap (·.frame))) s'.heap := fun b o q => hx.keeps b o (of_hideAll _ q)
  have hen : (hideAll h ((envOf name scope L a cd :: outer).filterMap (·.frame))).get? e = none := by
    cases q : (hideAll h ((envOf name scope L a cd :: outer).filterMap (·.frame))).get? e with
    | none => rfl
    | some o => have := of_hideAll _ q; rw [hx.new] at this; cases this
  have hfr : s'.heap.FunFrames (hideAll h ((envOf name scope L a cd :: outer).filterMap (·.frame))) (envOf name scope L a cd :: outer) := (funFrames_hide K'.frames hin).of_keeps fun b o q _ => ⟨o, hx.keeps b o q, rfl⟩
  generalize hideAll h ((envOf name scope L a cd :: outer).filterMap (·.frame)) = B at st sg hl hkb hen hfr
  have U0 : g.UpToSlots s'.heap := (Heap.UpToSlots.of_keeps F.keep).trans (Heap.UpToSlots.of_keeps hx.keeps)
  refine note_new K'.stack hfr rfl he hkb hen hd rfl fun h₁ T O₁ U₁ => ?_
  refine land_own O₁ fun h₂ O₂ U₂ => ?_
  have Ug : g.UpToSlots h₂ := U0.trans (U₁.trans U₂)
  have ns1 : h₂.Ns mainGlobals mg := Ug.ns hg
  have ns2 : h₂.Ns builtinsNs mb := Ug.ns hb
  obtain ⟨b1, b2, hs1, hs2, hor⟩ : ∃ b1 b2, isSubtype (.type X) (.type "TypeError") = pure b1 ∧ isSubtype (.type X) (.type "ValueError") = pure b2 ∧ (b1 || b2) = true := by
    rcases hX with rfl | rfl
    · exact ⟨true, false, by rw [isSubtype_type]; kernel_rfl, by rw [isSubtype_type]; kernel_rfl, rfl⟩
    · exact ⟨false, true, by rw [isSubtype_type]; kernel_rfl, by rw [isSubtype_type]; kernel_rfl, rfl⟩
  refine wpAny_handleBy_tup2 PySem.F.isExc_TypeError PySem.F.notTuple_TypeError PySem.F.isExc_ValueError PySem.F.notTuple_ValueError hs1 hs2 ?_
  refine wpAny_Tuple ?_
  refine wpAny_items_cons (PySem.Calls.Name_function_global hk hx1 (PySem.Calls.loadGlobal_builtin (env := envOf name scope L a cd) ns1 hm1 ns2 hv1 ?_) (by decide))
  refine wpAny_items_cons (PySem.Calls.Name_function_global hk hx2 (PySem.Calls.loadGlobal_builtin (env := envOf name scope L a cd) ns1 hm2 ns2 hv2 ?_) (by decide))
  refine wpAny_items_nil ⟨by size_fits, ?_⟩
  have kp : ∀ b o, h₂.get? b = some o → (h₂.push { cls := .type "tuple", data := .seq [Value.type "TypeError", Value.type "ValueError"].toArray }).get? b = some o := fun b o q => Heap.get?_push_of_some _ q
  have O₃ := O₂.keeps kp
  refine ⟨_, rfl, IsTup.new _ _, ⟨_, O₃.2.2.2.1, (Obj.cls_mapFields _ _).trans hcls⟩, ?_⟩
  rw [hor, if_pos rfl]
  refine land_own O₃ fun h₄ O₄ U₄ => wpAny_passesOwnAt hP ?_
  have Ug₄ : g.UpToSlots h₄ := Ug.trans ((Heap.UpToSlots.of_keeps kp).trans U₄)
  obtain ⟨S₄, fr₄, _, he₄, _⟩ := O₄
  refine wpAny_execs_cons (raise_from (env := envOf name scope L a cd) rfl he₄ (Obj.data_mapFields hd _) rfl hk hx1 (Ug₄.ns hg) (Ug₄.ns hb) hm1 hv1 fun h' tk e2 t u k1 k2 k3 k4 k5 => hE h' tk e2 t u ?_)
  have fresh : ∀ b, h₄.get? b = none → B.get? b = none := fun b hb => by
    cases q : B.get? b with
    | none => rfl
    | some o => have := S₄ b o q; rw [hb] at this; cases this
  exact ⟨⟨B, _, _, st, sg, hl, fun b o q => k1 b o (S₄ b o q), fr₄.of_keeps fun b o q _ => ⟨o, k1 b o q, rfl⟩, fresh e2 k2, fresh t k3, k4, rfl, rfl, rfl, rfl⟩, ⟨_, _, k5, rfl, rfl⟩, Ug₄.trans (Heap.UpToSlots.of_keeps k1)⟩
end
def GEnd (J : Heap → (Str → Option Value) → Prop) (L : Addr) (s : Shared) (led : List (Addr × Obj)) (f : Flow) (s₄ : Shared) : Prop :=
  (f = .next ∨ f = .cont) ∧ ∃ g' m' h' tk', s₄ = { s with heap := h', toks := tk' } ∧ J g' m' ∧ Fr g' L h' m' ∧ News g' L h' led
section
variable {prog : Program} {w : World} {A : Around} {E : Value → Shared → Prop} {s : Shared} {env : Env} {g₀ : Heap} {target : Expr} {body : List Stmt} {Q : Flow → Shared → Prop}
theorem ground_turns {l : Addr} {vs : List Value} {nn : Nat} {m₀ : Str → Option Value} {keep : List (Addr × Obj)} (J : Nat → Heap → (Str → Option Value) → Prop)
    (hh : A.handled = none) (hl : (l, W.listOf vs.toArray nn) ∈ keep) (F : Fr g₀ env.locals s.heap m₀) (N : News g₀ env.locals s.heap keep) (hj : J 0 g₀ m₀)
    (turn : ∀ i v g m h tk I oI, vs[i]? = some v → J i g m → Fr g env.locals h m → News g env.locals h ((I, oI) :: keep) → (∀ p ∈ keep, p.1 ≠ I) →
      wpAny (model prog w) A (assign target env v) (fun _ s₃ => wpAny (model prog w) A (execs body env) (GEnd (J (i + 1)) env.locals s ((I, oI) :: keep)) E s₃) E { s with heap := h, toks := tk })
    (done : ∀ g m h tk, J vs.length g m → Fr g env.locals h m → News g env.locals h keep → Q .next { s with heap := h, toks := tk })
    (hE : PassesOwn (model prog w) A env E := by passes_own) :
    wpAny (model prog w) A (pyIter (.ref l)) (fun it s₂ => codeAny (model prog w) A (.forLoop target it body [] env) (fun r s' => match r with | .ok f => Q f s' | .error e => cameBackBy (model prog w) A env E e s') s₂) E s := by
  have hol : s.heap.get? l = some (W.listOf vs.toArray nn) := (N _ hl).1
  have hne : ∀ p ∈ keep, p.1 ≠ s.heap.objs.size := fun p hp => Nat.ne_of_lt (Heap.lt_size (N p hp).1)
  refine wpAny_pyIter_list ⟨_, hol, rfl, nn, rfl⟩ ?_
  have hnew := next_is_new F
  have hLI : s.heap.objs.size ≠ env.locals := fun z => absurd F.ns.lt (z ▸ Nat.lt_irrefl _)
  have hget := Heap.get?_push_size s.heap (o := { cls := .type "list_iterator", data := .fields #[.ref l, .int 0 0] }) rfl
  have F₀ : Fr g₀ env.locals (s.heap.push { cls := .type "list_iterator", data := .fields #[.ref l, .int 0 0] }) m₀ := F.push _
  have N₀ : News g₀ env.locals (s.heap.push { cls := .type "list_iterator", data := .fields #[.ref l, .int 0 0] }) ((s.heap.objs.size, { cls := .type "list_iterator", data := .fields #[.ref l, .int 0 0] }) :: keep) := fun p hp => by
    rcases List.mem_cons.mp hp with rfl | hp
    · exact ⟨hget, hLI, hnew⟩
    · exact ⟨Heap.get?_push_of_some _ (N p hp).1, (N p hp).2⟩
  generalize s.heap.objs.size = I at hne hLI F₀ N₀ ⊢
  generalize s.heap.push { cls := .type "list_iterator", data := .fields #[.ref l, .int 0 0] } = h₁ at F₀ N₀ ⊢
  refine codeAny_forLoop_any (fun n s' => ∃ i g m h tk oI, n = vs.length + 1 - i ∧ i ≤ vs.length ∧ s' = { s with heap := h, toks := tk } ∧ (oI.cls = .type "list_iterator" ∧ oI.data = .fields #[.ref l, .int (i : Int) 0]) ∧ J i g m ∧ Fr g env.locals h m ∧ News g env.locals h ((I, oI) :: keep)) ?_ (vs.length + 1) ⟨0, g₀, m₀, h₁, s.toks, _, rfl, Nat.zero_le _, rfl, ⟨rfl, rfl⟩, hj, F₀, N₀⟩
  rintro n s₂ ⟨i, g, m, h, tk, oI, rfl, hi, rfl, ⟨hc, hd⟩, hJ, F₁, N₁⟩
  have hlist : h.IsList l vs.toArray := ⟨_, (N₁ _ (.tail _ hl)).1, rfl, nn, rfl⟩
  have hit : h.IsListIter I l i := ⟨oI, (N₁ _ (.head _)).1, hc, hd⟩
  have nI := (N₁ _ (.head _)).2
  by_cases hlt : i < vs.length
  · refine wpAny_pyNext_list_item hit hlist (x := vs[i]) (by simp [hlt]) fun h₂ hit₂ hs₂ => ?_
    refine letGo_listiter hit₂ ?_
    obtain ⟨oI₂, hg₂, hc₂, hd₂⟩ := hit₂
    have F₂ : Fr g env.locals h₂ m := ⟨F₁.ns.at' fun o e => hs₂.extBut _ o nI.1.symm e, fun b o e => hs₂.extBut b o (fun z => by rw [z, nI.2] at e; cases e) (F₁.keep b o e), F₁.above⟩
    have N₂ : News g env.locals h₂ ((I, oI₂) :: keep) := fun p hp => by
      rcases List.mem_cons.mp hp with rfl | hp
      · exact ⟨hg₂, nI⟩
      · exact ⟨hs₂.extBut _ _ (hne p hp) (N₁ _ (.tail _ hp)).1, (N₁ _ (.tail _ hp)).2⟩
    refine wpAny_mono (wpAny_passesOwn hE (turn i vs[i] g m h₂ tk I oI₂ (by simp [hlt]) hJ F₂ N₂ hne)) (fun _ s₃ q => wpAny_mono (wpAny_passesOwn hE q) (fun f s₄ r => ?_) fun _ _ e => e) fun _ _ e => e
    obtain ⟨hf, g', m', h', tk', rfl, hJ', F', N'⟩ := r
    have fin : ∃ m_1, m_1 < vs.length + 1 - i ∧ ∃ i g m h tk oI, m_1 = vs.length + 1 - i ∧ i ≤ vs.length ∧ ({ s with heap := h', toks := tk' } : Shared) = { s with heap := h, toks := tk } ∧ (oI.cls = .type "list_iterator" ∧ oI.data = .fields #[.ref l, .int (i : Int) 0]) ∧ J i g m ∧ Fr g env.locals h m ∧ News g env.locals h ((I, oI) :: keep) :=
      ⟨vs.length + 1 - (i + 1), by omega, i + 1, g', m', h', tk', oI₂, rfl, hlt, rfl, ⟨hc₂, by simpa using hd₂⟩, hJ', F', N'⟩
    rcases hf with rfl | rfl
    · exact fin
    · exact fin
  · have hi' : i = vs.length := by omega
    subst hi'
    refine wpAny_pyNext_list_end hh hit hlist (by simp) fun h₂ he₂ => wpAny_execs_nil ?_
    exact done g m h₂ tk hJ ⟨F₁.ns.at' fun o e => he₂ _ o nI.1.symm e, fun b o e => he₂ b o (fun z => by rw [z, nI.2] at e; cases e) (F₁.keep b o e), F₁.above⟩ fun p hp => ⟨he₂ _ _ (hne p hp) (N₁ _ (.tail _ hp)).1, (N₁ _ (.tail _ hp)).2⟩
end
section
local macro_rules | `(tactic| k_mem) => `(tactic| with_reducible (first | exact List.Mem.head _ | (refine' List.mem_cons_of_mem _ ?_; k_mem) | assumption | (refine' List.mem_append_left _ ?_; k_mem) | (refine' List.mem_append_right _ ?_; k_mem)))
local macro_rules | `(tactic| kd_subs) => `(tactic| first | exact fun _ h9 => h9 | (refine sub_consL ?ks1 ?ks2; (case ks1 => k_mem); (case ks2 => kd_subs)) | (refine sub_appL ?ks1 ?ks2; (case ks1 => kd_subs); (case ks2 => kd_subs)) | (intro p9 h9; k_mem))
local macro_rules | `(tactic| kd_in) => `(tactic| first
  | with_reducible assumption
  | exact DatIn.none | exact DatIn.bool _ | exact DatIn.int _ _ | exact DatIn.str _ _
  | (refine DatIn.mono ?kdM (by with_reducible assumption); (case kdM => kd_subs))
  | (refine' DatIn.list (by k_mem) ?kdT; (case kdT => kd_all))
  | fail "my kd_in")
local macro_rules | `(tactic| kd_all) => `(tactic| first
  | with_reducible assumption
  | exact DatAll.nil
  | (refine DatAll.mono ?kdM (by with_reducible assumption); (case kdM => kd_subs))
  | (refine' DatAll.cons ?kd1 ?kd2; (case kd1 => kd_in); (case kd2 => kd_all))
  | (refine' DatAll.append ?kd1 ?kd2; (case kd1 => kd_all); (case kd2 => kd_all))
  | fail "my kd_all")
local macro_rules | `(tactic| kqd_ok) => `(tactic| first
  | assumption
  | exact List.forall_mem_nil _
  | (refine List.forall_mem_cons.mpr ⟨?kqo1, ?kqo2⟩; (case kqo1 => first | rfl | decide | kernel_rfl!); (case kqo2 => kqd_ok)))
local macro_rules | `(tactic| kl_room) => `(tactic| ((simp only [List.length_append, List.length_cons, List.length_nil, List.length_map, List.length_replicate, List.length_dropLast, PySem.sizeLine_eq]); omega))
local macro_rules | `(tactic| walk_at "compareOp NotEq ref ref") => `(tactic| (k_here; (with_reducible show wpAny _ _ (compareOp CmpOp.NotEq (Value.ref _) (Value.ref _)) _ _ _); k_dflt (first
  | (refine' my_ne (r := true) ?N ?a ?b ?c ?d ?f ?g ?i ?e ?_; (case N => k_asm); (case a => law_purse 400000 => k_mem); (case b => law_purse 400000 => k_mem); (case c => law_purse 400000 => kd_all); (case d => law_purse 400000 => kd_all); (case f => law_purse 400000 => kqd_ok); (case g => law_purse 400000 => kqd_ok); (case i => ke_room); (case e => first | (simp; done) | exact iff_of_true (by assumption) rfl | exact iff_of_false (fun q9 => q9 rfl) Bool.false_ne_true); k_whole)
  | (refine' my_ne (r := false) ?N ?a ?b ?c ?d ?f ?g ?i ?e ?_; (case N => k_asm); (case a => law_purse 400000 => k_mem); (case b => law_purse 400000 => k_mem); (case c => law_purse 400000 => kd_all); (case d => law_purse 400000 => kd_all); (case f => law_purse 400000 => kqd_ok); (case g => law_purse 400000 => kqd_ok); (case i => ke_room); (case e => first | (simp; done) | exact iff_of_true (by assumption) rfl | exact iff_of_false (fun q9 => q9 rfl) Bool.false_ne_true); k_whole))))
local macro_rules | `(tactic| walk_at "compareOp Eq ref ref") => `(tactic| (k_here; (with_reducible show wpAny _ _ (compareOp CmpOp.Eq (Value.ref _) (Value.ref _)) _ _ _); k_dflt (first
  | (refine' my_eq (r := true) ?N ?a ?b ?c ?d ?f ?g ?i ?e ?_; (case N => k_asm); (case a => law_purse 400000 => k_mem); (case b => law_purse 400000 => k_mem); (case c => law_purse 400000 => kd_all); (case d => law_purse 400000 => kd_all); (case f => law_purse 400000 => kqd_ok); (case g => law_purse 400000 => kqd_ok); (case i => ke_room); (case e => first | (simp; done) | exact iff_of_true (by assumption) rfl | exact iff_of_false (fun q9 => q9 rfl) Bool.false_ne_true); k_whole)
  | (refine' my_eq (r := false) ?N ?a ?b ?c ?d ?f ?g ?i ?e ?_; (case N => k_asm); (case a => law_purse 400000 => k_mem); (case b => law_purse 400000 => k_mem); (case c => law_purse 400000 => kd_all); (case d => law_purse 400000 => kd_all); (case f => law_purse 400000 => kqd_ok); (case g => law_purse 400000 => kqd_ok); (case i => ke_room); (case e => first | (simp; done) | exact iff_of_true (by assumption) rfl | exact iff_of_false (fun q9 => q9 rfl) Bool.false_ne_true); k_whole))))
local macro_rules | `(tactic| walk_at "compareOp In") => `(tactic| (k_here; (with_reducible show wpAny _ _ (compareOp CmpOp.In (Value.ref _) (Value.ref _)) _ _ _); k_dflt (first
  | (refine' my_in (r := true) ?N ?a ?c ?d ?f ?g ?i ?e ?_; (case N => k_asm); (case a => law_purse 400000 => k_mem); (case c => law_purse 400000 => kd_all); (case d => law_purse 400000 => kd_in); (case f => law_purse 400000 => kqd_ok); (case g => first | assumption | rfl); (case i => ke_room); (case e => exact iff_of_true (by assumption) rfl); k_whole)
  | (refine' my_in (r := false) ?N ?a ?c ?d ?f ?g ?i ?e ?_; (case N => k_asm); (case a => law_purse 400000 => k_mem); (case c => law_purse 400000 => kd_all); (case d => law_purse 400000 => kd_in); (case f => law_purse 400000 => kqd_ok); (case g => first | assumption | rfl); (case i => ke_room); (case e => exact iff_of_false (by assumption) Bool.false_ne_true); k_whole))))
local macro_rules | `(tactic| walk_at "binaryOp Add ref ref") => `(tactic| (k_here; (with_reducible show wpAny _ _ (binaryOp Operator.Add (Value.ref _) (Value.ref _)) _ _ _); k_dflt (refine' my_add ?F ?N ?a ?b ?_ ?z; (case F => k_asm); (case N => k_asm); (case a => law_purse 400000 => k_mem); (case b => law_purse 400000 => k_mem); (case z => kl_room)); intro D' h' F' N' l1))
local macro_rules | `(tactic| walk_at "subscriptTail Name UnaryOp ref int") => `(tactic| (k_here; (with_reducible show wpAny _ _ (subscriptTail _ _ (Value.ref _) (Value.int _ _)) _ _ _); k_dflt (refine' my_last ?N ?a ?_ ?s; (case N => k_asm); (case a => law_purse 400000 => k_mem); (case s => with_unfolding_all rfl); k_whole)))
local macro_rules | `(tactic| walk_at "subscriptTail") => `(tactic| (k_here; (with_reducible show wpAny _ _ (subscriptTail _ _ (Value.ref _) (Value.int _ _)) _ _ _); k_dflt (refine' my_item ?N ?a ?p ?q ?x ?_ ?s; (case N => k_asm); (case a => law_purse 400000 => k_mem); (case p => first | assumption | decide); (case q => first | decide | omega); (case x => first | assumption | rfl); (case s => with_unfolding_all rfl); k_whole)))
local macro_rules | `(tactic| walk_at "subscriptTail Name Slice ref ref") => `(tactic| (k_here; (with_reducible show wpAny _ _ (subscriptTail _ (PySem.Expr.Slice _ _ none _) (Value.ref _) (Value.ref _)) _ _ _); k_dflt (refine' my_slice ?F ?N ?a ?p ?q ?e ?_ ?s ?t ?z; (case F => k_asm); (case N => k_asm); (case a => law_purse 400000 => k_mem); (case p => kmk_part); (case q => kmk_part); (case e => first | exact pick_init | exact pick_tail | exact pick_from | exact pick_dropLast); (case s => with_unfolding_all rfl); (case t => kmk_pure); (case z => kl_room)); intro D' h' F' N' l1))
local macro_rules | `(tactic| walk_at "newList") => `(tactic| (k_here; k_dflt (refine' my_newList ?F ?N ?_ ?z; (case F => k_asm); (case N => k_asm); (case z => kl_room)); intro D' h' F' N' l1))
local macro_rules | `(tactic| ktr_rel) => `(tactic| first
  | exact Ext.base
  | (refine' Ext.cons ?kr1 ?kr2; (case kr1 => first | assumption | (refine lt_ofAll (by assumption) ?_; kd_subs) | (refine lt_ofAllS (by assumption) ?_; kd_subs) | (refine ne_ofOff (by assumption) ?_; kd_subs) | (refine ne_ofAll (by assumption) ?_; kd_subs)); (case kr2 => ktr_rel))
  | (refine' Ext.app ?kr1; (case kr1 => ktr_rel))
  | (refine ord_of (by assumption) ?_; kd_subs)
  | (refine' ord_app ?kr1 ?kr2; (case kr1 => ktr_rel); (case kr2 => ktr_rel)))
local macro_rules | `(tactic| tb_rel) => `(tactic| first
  | with_reducible assumption
  | (refine RunsIn.mono ?km1 (by with_reducible assumption); (case km1 => kd_subs))
  | (refine' RunsIn.mk (by k_mem) ?km2; (case km2 => tb_rel))
  | exact RunsAll.nil
  | (refine RunsAll.mono ?km1 (by with_reducible assumption); (case km1 => kd_subs))
  | (refine' RunsAll.cons (by k_mem) ?km2; (case km2 => tb_rel))
  | (refine' RunsAll.append ?km2 ?km3; (case km2 => tb_rel); (case km3 => tb_rel)))
local macro_rules | `(tactic| walk_at "call builtin:len cons nil") => `(tactic| (k_here; (with_reducible show wpAny _ _ (call (Value.builtin _) [Value.ref _]) _ _ _); k_dflt (refine' my_len ?N ?a ?z ?_; (case N => k_asm); (case a => law_purse 400000 => k_mem); (case z => first | omega | ((simp only [List.length_append, List.length_cons, List.length_nil]); omega)); k_whole); intro t' tk'))
local macro_rules | `(tactic| ktr_rel) => `(tactic| first
  | (refine' Tn.cons ?kr1 ?kr2; (case kr1 => (refine lt_ofAll (by assumption) ?_; kd_subs)); (case kr2 => ktr_rel))
  | (refine Tn.base ?kr1 ?kr2; (case kr1 => assumption); (case kr2 => assumption)))
section
def joinedL : List Run → List Run → List Run
  | [], r => r
  | [l], [] => [l]
  | [l], r :: rs => if l.1 = r.1 then (l.1, l.2 + r.2) :: rs else l :: r :: rs
  | l :: l' :: ls, r => l :: joinedL (l' :: ls) r
theorem joinedL_nil : ∀ l : List Run, joinedL l [] = l
  | [] => rfl
  | [_] => rfl
  | l :: l' :: ls => by rw [joinedL, joinedL_nil]
theorem joinedL_snoc (l r : Run) (rs : List Run) : ∀ ls : List Run, joinedL (ls ++ [l]) (r :: rs) = if l.1 = r.1 then ls ++ (l.1, l.2 + r.2) :: rs else ls ++ l :: r :: rs
  | [] => rfl
  | [x] => by simp only [List.cons_append, List.nil_append, joinedL]; split <;> rfl
  | x :: y :: ls => by
    have := joinedL_snoc l r rs (y :: ls)
    simp only [List.cons_append, joinedL] at this ⊢
    rw [this]; split <;> rfl
theorem joinedL_length : ∀ l r : List Run, (joinedL l r).length ≤ l.length + r.length
  | [], r => by simp [joinedL]
  | [l], [] => by simp [joinedL]
  | [l], r :: rs => by simp only [joinedL]; split <;> simp <;> omega
  | l :: l' :: ls, r => by
    have := joinedL_length (l' :: ls) r
    simp only [joinedL, List.length_cons] at this ⊢
    omega
theorem joinedL_ok : ∀ {l r : List Run}, runsOk l → runsOk r → runsOk (joinedL l r)
  | [], r, _, h => by simpa [joinedL] using h
  | [l], [], h, _ => by simpa [joinedL] using h
  | [l], r :: rs, h, k => by
    have h1 := h l (.head _)
    have k1 := k r (.head _)
    have k2 : runsOk rs := fun x hx => k x (.tail _ hx)
    simp only [joinedL]
    split
    · intro x hx
      rcases List.mem_cons.mp hx with rfl | hx
      · exact h1
      · exact k2 x hx
    · intro x hx
      rcases List.mem_cons.mp hx with rfl | hx
      · exact h1
      · exact k x hx
  | l :: l' :: ls, r, h, k => by
    have := joinedL_ok (l := l' :: ls) (fun x hx => h x (.tail _ hx)) k
    simp only [joinedL]
    intro x hx
    rcases List.mem_cons.mp hx with rfl | hx
    · exact h _ (.head _)
    · exact this x hx
set_option maxRecDepth 100000 in
set_option maxHeartbeats 8000000 in
theorem joined_tel {w : World} {news : List (Addr × Obj)} {v1 v2 : Value} {left right : List Run} (h1 : RunsIn news v1 left) (h2 : RunsIn news v2 right) (hlen : left.length + right.length ≤ 1000) (ok1 : runsOk left) (ok2 : runsOk right) :
    Tel w 254 news [v1, v2] 20 (fun nl r => RunsIn nl r (joinedL left right)) := by
  unfold Tel
  w_top off
  k_fill
  intro mean mg mb dp un gd cn cs a ccd cl outer A₀ base h₀ L m s Q E B F X N T hk hd hu hret
  replace ok1 := runs_ok ok1
  replace ok2 := runs_ok ok2
  obtain ⟨a1, vs1, n1, rfl, m1, d1⟩ := runs_inv h1.dat
  obtain ⟨a2, vs2, n2, rfl, m2, d2⟩ := runs_inv h2.dat
  clear h1 h2
  have hz1 := d1.length
  have hz2 := d2.length
  simp only [List.length_map] at hz1 hz2
  rcases left.eq_nil_or_concat with rfl | ⟨left, l, rfl⟩
  · simp only [List.map_nil] at d1 ok1
    obtain rfl := dat_nil d1
    refine wpAny_call ?_
    k_dflt ktr_enter
    k_steps
    (rename Fr h₀ L _ _ => kF); (rename News h₀ L _ _ => kN)
    have kx := news_ext (news := news) kN (by ktr_rel)
    refine hret _ _ _ _ kF kx.1 kx.2.1 (RunsIn.of ?_)
    (simp only [joinedL, runsD]; kd_in)
  · cases right with
    | nil =>
      simp only [List.map_nil] at d2 ok2
      obtain rfl := dat_nil d2
      simp only [List.concat_eq_append, List.length_append, List.length_cons, List.length_nil] at hz1 hlen
      refine wpAny_call ?_
      k_dflt ktr_enter
      k_steps
      (rename Fr h₀ L _ _ => kF); (rename News h₀ L _ _ => kN)
      have kx := news_ext (news := news) kN (by ktr_rel)
      refine hret _ _ _ _ kF kx.1 kx.2.1 (RunsIn.of ?_)
      (simp only [joinedL_nil, runsD]; (refine' DatIn.list (by k_mem) ?_); (rw [List.append_nil]); kd_all)
    | cons r right =>
      simp only [List.concat_eq_append, List.map_append, List.map_cons, List.map_nil] at d1 d2 ok1 ok2
      simp only [List.concat_eq_append, List.length_append, List.length_cons, List.length_nil] at hz1 hz2 hlen
      obtain ⟨us, u, rfl, d1a, d1b⟩ := dat_snoc d1
      obtain ⟨x, xs, rfl, d2b, d2a⟩ := dat_cons d2
      obtain ⟨al, t1, t2, k1, rfl, ml⟩ := run_inv d1b
      obtain ⟨ar, t3, t4, k2, rfl, mr⟩ := run_inv d2b
      simp only [List.length_append, List.length_cons, List.length_nil] at hz1 hz2
      refine wpAny_call ?_
      k_dflt ktr_enter
      k_steps
      · (rename Fr h₀ L _ _ => kF); (rename News h₀ L _ _ => kN)
        have kx := news_ext (news := news) kN (by ktr_rel)
        refine hret _ _ _ _ kF kx.1 kx.2.1 (RunsIn.of ?_)
        (rename (l.1 == r.1) = true => hq)
        rw [List.concat_eq_append, joinedL_snoc, if_pos (eq_of_beq hq)]
        refine' DatIn.list (by k_mem) ?_
        simp only [List.map_append, List.map_cons, List.append_assoc, List.cons_append, List.nil_append]
        kd_all
      · (rename Fr h₀ L _ _ => kF); (rename News h₀ L _ _ => kN)
        have kx := news_ext (news := news) kN (by ktr_rel)
        refine hret _ _ _ _ kF kx.1 kx.2.1 (RunsIn.of ?_)
        (rename (l.1 == r.1) = false => hq)
        have hq' : ¬ l.1 = r.1 := fun e => by rw [e] at hq; simp at hq
        rw [List.concat_eq_append, joinedL_snoc, if_neg hq']
        refine' DatIn.list (by k_mem) ?_
        simp only [List.map_append, List.map_cons, List.append_assoc, List.cons_append, List.nil_append]
        kd_all
end
section
local macro_rules | `(tactic| tb_start) => `(tactic| first
  | assumption
  | exact List.forall_mem_nil _
  | (refine List.forall_mem_cons.mpr ⟨?kqo1, ?kqo2⟩; (case kqo1 => first | rfl | decide | kernel_rfl!); (case kqo2 => tb_start))
  | (refine joinedL_ok ?kt1 ?kt2; (case kt1 => tb_start); (case kt2 => tb_start)))
local macro_rules | `(tactic| walk_at "call ref") => `(tactic| (k_here; k_dflt (show wpAny _ _ (call (Value.ref 254) [_, _]) _ _ _); k_dflt (refine' Tel.use ?B ?F ?X ?N ?T ?hk (joined_tel ?h1 ?h2 ?hz ?o1 ?o2) ?hd ?hu ?_; (case B => k_asm); (case F => k_asm); (case X => k_asm); (case N => k_asm); (case T => k_asm); (case hk => exact rfl); (case h1 => tb_rel); (case h2 => tb_rel); (case hz => first | ((simp only [List.length_cons, List.length_nil]); omega) | ((refine Nat.le_trans (Nat.add_le_add_right (joinedL_length _ _) _) ?_); (simp only [List.length_cons, List.length_nil]); omega)); (case o1 => tb_start); (case o2 => tb_start); (case hd => first | omega | ((try dsimp only [Around.deeper, ktrTop]); omega)); (case hu => first | omega | ((try dsimp only [Around.deeper, ktrTop]); omega))); intro x' tl' h' tk' F' N' l1 R'; (try simp only [List.nil_append, List.cons_append, List.append_nil, List.append_assoc] at N'); (try simp only [List.nil_append, List.cons_append, List.append_nil, List.append_assoc] at R'); obtain ⟨xa', xvs', xn', hxe', hxm', hxr'⟩ := RunsIn.inv R'; subst hxe'; (have hxk' := Nat.le_trans (Nat.le_of_eq (RunsAll.length hxr')) (joinedL_length _ _)); (try simp only [List.length_cons, List.length_nil] at hxk')))
local macro_rules | `(tactic| walk_at "exec Assign cons ListComp") => `(tactic| (k_here; k_dflt (refine LCt.Assign_ListComp_T (F₀ := by k_asm) (by rfl) (by with_unfolding_all rfl) (by with_unfolding_all rfl) (by decide) (by rfl) (by decide) (by rfl) (by rfl) (by rfl) ?_)))
def dotG (rs : List Run) (l : List Int) (k : Int) : List Int := if ((rs.getD k.toNat (Str.ofString "", 0)).1 == Str.ofString ".") = true then l ++ [k] else l
theorem dotG_grows (rs : List Run) : KPfGrows (dotG rs) := by
  intro l k
  unfold dotG
  split <;> simp
theorem dotG_fold (rs : List Run) : ∀ (ks l : List Int), ks.foldl (dotG rs) l = l ++ ks.filter (fun k => (rs.getD k.toNat (Str.ofString "", 0)).1 == Str.ofString ".")
  | [], l => by simp
  | k :: ks, l => by
    rw [List.foldl_cons, dotG_fold rs ks, List.filter_cons, dotG]
    split <;> simp
abbrev euroR : List Run := [(Str.ofString "euro", 1)]
abbrev atR : List Run := [(Str.ofString "@", 1)]
abbrev isoR : List Run := [(Str.ofString ".", 1), (Str.ofString "ISO8859", 1), (Str.ofString "-", 1), (Str.ofString "15", 1)]
abbrev utfR : List Run := [(Str.ofString ".", 1), (Str.ofString "UTF", 1), (Str.ofString "-", 1), (Str.ofString "8", 1)]
def fromDot (rs : List Run) : List Run := rs.dropWhile (fun r => r.1 != Str.ofString ".")
theorem fromDot_split {r : Run} {post : List Run} : ∀ {l : List Run}, fromDot l = r :: post → ∃ pre, l = pre ++ r :: post ∧ (∀ x ∈ pre, (x.1 != Str.ofString ".") = true) ∧ (r.1 == Str.ofString ".") = true
  | [], h => by cases h
  | y :: l, h => by
    unfold fromDot at h
    rw [List.dropWhile_cons] at h
    split at h
    · rename_i hy
      obtain ⟨pre, e, h1, h2⟩ := fromDot_split (l := l) h
      exact ⟨y :: pre, by rw [e]; rfl, fun x hx => by rcases List.mem_cons.mp hx with rfl | hx; exact hy; exact h1 x hx, h2⟩
    · rename_i hy
      cases h
      exact ⟨[], rfl, (fun _ hx => nomatch hx), by simpa using hy⟩
theorem dots_nil {rs : List Run} (h : fromDot rs = []) : (rangeKs 0 rs.length).foldl (dotG rs) [] = [] := by
  rw [dotG_fold, List.nil_append, List.filter_eq_nil_iff]
  intro k hk
  have hb := mem_rangeKs hk
  have hl : k.toNat < rs.length := by omega
  have hg : (rs.getD k.toNat (Str.ofString "", 0)) = rs[k.toNat] := by simp [List.getD, hl]
  rw [hg]
  have h2 : ∀ {l : List Run}, fromDot l = [] → ∀ x ∈ l, (x.1 == Str.ofString ".") = false := by
    intro l
    induction l with
    | nil => intro _ x hx; cases hx
    | cons y l ih =>
      intro h x hx
      unfold fromDot at h ih
      rw [List.dropWhile_cons] at h
      split at h
      · rename_i hy
        rcases List.mem_cons.mp hx with rfl | hx
        · simpa using hy
        · exact ih h x hx
      · cases h
  rw [h2 h _ (List.getElem_mem hl)]
  exact Bool.false_ne_true
theorem dots_cons {pre post : List Run} {r : Run} (hp : ∀ x ∈ pre, (x.1 != Str.ofString ".") = true) (hr : (r.1 == Str.ofString ".") = true) :
    ∃ rest, (rangeKs 0 (pre ++ r :: post).length).foldl (dotG (pre ++ r :: post)) [] = (pre.length : Int) :: rest := by
  rw [dotG_fold, List.nil_append]
  have e : rangeKs 0 (pre ++ r :: post).length = rangeKs 0 pre.length ++ (pre.length : Int) :: ((List.range post.length).map fun i => ((pre.length + (i + 1) : Nat) : Int)) := by
    unfold rangeKs
    rw [List.length_append, List.length_cons, List.range_add, List.map_append, List.range_succ_eq_map]
    simp [List.map_map, Function.comp_def]
  rw [e, List.filter_append, List.filter_cons]
  have h1 : (rangeKs 0 pre.length).filter (fun k => ((pre ++ r :: post).getD k.toNat (Str.ofString "", 0)).1 == Str.ofString ".") = [] := by
    rw [List.filter_eq_nil_iff]
    intro k hk
    have hb := mem_rangeKs hk
    have hl : k.toNat < pre.length := by omega
    have hg : ((pre ++ r :: post).getD k.toNat (Str.ofString "", 0)) = pre[k.toNat] := by simp [List.getD, List.getElem?_append_left hl, hl]
    rw [hg]
    simpa using hp pre[k.toNat] (List.getElem_mem hl)
  have h2 : ((pre ++ r :: post).getD (pre.length : Int).toNat (Str.ofString "", 0)) = r := by simp [List.getD]
  rw [h1, h2, if_pos hr]
  exact ⟨_, rfl⟩
def modifiedL (below above : List Run) : List Run :=
  if above = euroR then
    if fromDot below = [] then below ++ isoR
    else if fromDot below = utfR ∨ fromDot below = isoR then below
    else joinedL below atR ++ above
  else joinedL (joinedL below atR) above
set_option maxRecDepth 100000 in
set_option maxHeartbeats 2000000 in
theorem modified_tel {w : World} {news : List (Addr × Obj)} {v1 v2 : Value} {below above : List Run} (h1 : RunsIn news v1 below) (h2 : RunsIn news v2 above) (hlen : below.length + above.length ≤ 900) (ok1 : runsOk below) (ok2 : runsOk above) :
    Tel w 259 news [v1, v2] 40 (fun nl r => RunsIn nl r (modifiedL below above)) := by
  unfold Tel
  w_top off
  k_fill
  intro mean mg mb dp un gd cn cs a ccd cl outer A₀ base h₀ L m s Q E B F X N T hk hd hu hret
  have ko1 := runs_ok ok1
  have ko2 := runs_ok ok2
  have h1' := h1
  have h2' := h2
  obtain ⟨a1, vs1, n1, rfl, m1, d1⟩ := h1'.inv
  obtain ⟨a2, vs2, n2, rfl, m2, d2⟩ := h2'.inv
  have hz1 := d1.length
  have hz2 := d2.length
  have dd1 := d1.dat
  have dd2 := d2.dat
  by_cases he : above = euroR
  · subst he
    refine wpAny_call ?_
    (k_dflt (refine' code_defC ?k1 ?k2 ?k3 ?k4 ?k5 ?kA ?kF ?kK ?k6 ?k7 ?k8 ?k9 ?kB ?kD ?_ ?c2 ?c3 ?c4; (case kA => exact rfl); (case kF => exact rfl); (case kK => assumption); (case k1 => k_asm); (case k2 => k_asm); (case k3 => k_asm); (case k4 => k_asm); (case k5 => k_asm); (case k6 => k_is); (case k7 => k_is); (case k8 => ktr_room); (case k9 => exact BindsTo.of_eq rfl); (case kB => exact rfl); (case kD => decide +kernel); (case c2 => exact rfl); (case c3 => exact rfl); (case c4 => exact rfl); k_whole))
    intro g' L' h' tk' cells' FG' F' N' Y' B' X' T' l1
    k_cells Y'
    (try simp only [List.cons_append, List.nil_append] at N')
    (try dsimp only)
    (try k_fold)
    repeat' ((fail_if_success (with_reducible show LCt.CompSrcT _ _ _ _ _ _ _ _ _ _ _ _ _ _ _)); (first | (k_unfold; (try dsimp only)) | walk1 | (dsimp only; walk1)))
    refine LCt.CompSrcT.range (n := vs1.length) (by rfl) (by k_asm) (by k_asm) (by assumption) ?s1 ?s2 ?s3 ?_
    (case s1 => exact small_one (by omega) (by omega) (by omega) (by omega))
    (case s2 => rw [rangeSize_nat]; omega)
    (case s3 => rw [PySem.sizeLine_eq]; omega)
    intro g2
    refine kci_range (a := 0) (dotG below) ?turn ?fin (dotG_grows below)
    (case turn =>
      intro k t I oI C oC D m₂ ys l h tk E' hk0 hk1 hI hC hx F2 N2 off ne mk
      have hkl : k.toNat < below.length := by omega
      obtain ⟨ae, te, ue, nne, hxe, hme⟩ := d1.get hkl
      have hgd : (below.getD k.toNat (Str.ofString "", 0)) = below[k.toNat] := by simp [List.getD, hkl]
      k_steps
      · refine LCg.CompEnd.intro (by assumption) (by assumption) _ (fun _ h9 => h9) off trivial (kci_el ?_ rfl rfl)
        (rename (_ == _) = true => hq)
        rw [dotG, hgd, if_pos hq]
      · refine LCg.CompEnd.intro (by assumption) (by assumption) _ (fun _ h9 => h9) off trivial (kci_no ?_ rfl)
        (rename (_ == _) = false => hq)
        rw [dotG, hgd, if_neg (by rw [hq]; exact Bool.false_ne_true)])
    (case fin =>
      intro ys hI _
      unfold LCg.FinA
      intro D h tk F3 N3 off3
      (try dsimp only)
      rw [hz1] at hI
      cases hfd : fromDot below with
      | nil =>
        rw [dots_nil hfd] at hI
        cases hI
        k_steps
        (rename Fr h₀ L _ _ => kF); (rename News h₀ L _ _ => kN)
        have kx := news_ext (news := news) kN (by ktr_rel)
        refine hret _ _ _ _ kF kx.1 kx.2.1 ?_
        refine RunsIn.mono kx.2.2 ?_
        simp only [modifiedL, if_pos, hfd]
        refine' RunsIn.mk (by k_mem) ?zkm2
        (case zkm2 => exact RunsAll.append (RunsAll.mono (by kd_subs) d1) (.cons (by k_mem) (.cons (by k_mem) (.cons (by k_mem) (.cons (by k_mem) .nil)))))
      | cons r post =>
        obtain ⟨pre, hbe, hpre, hr0⟩ := fromDot_split hfd
        obtain ⟨rest, hrest⟩ := dots_cons (post := post) hpre hr0
        rw [hbe, hrest] at hI
        obtain ⟨us, ws, hvs, hus, hws⟩ := (hbe ▸ d1).split
        have hul : us.length = pre.length := hus.length
        rw [← hul] at hI
        cases hI with
        | cons _ t9 hI2 =>
        have hdi : DatAll [] _ _ := ints_dat hI2
        have hko := ints_ok rest
        have hwd := hws.dat
        subst hvs
        simp only [List.length_append] at hz1
        have hkd : kqdOk 8 (Dat.list (List.map runD (r :: post))) = true := by
          have hko7 : ∀ x ∈ r :: post, PyData.strOk x.1 = true := fun x hx => ok1 x (by rw [hbe]; exact List.mem_append_right _ hx)
          simp only [kqdOk, List.all_map, List.all_eq_true]
          intro x hx
          simp [runD, kqdOk, hko7 x hx]
        by_cases hin : r :: post = utfR ∨ r :: post = isoR
        · have hin' : Dat.list (List.map runD (r :: post)) ∈ [Dat.list (List.map runD utfR), Dat.list (List.map runD isoR)] := by
            rcases hin with h | h <;> rw [h] <;> simp
          k_steps
          (rename Fr h₀ L _ _ => kF); (rename News h₀ L _ _ => kN)
          have kx := news_ext (news := news) kN (by ktr_rel)
          refine hret _ _ _ _ kF kx.1 kx.2.1 ?_
          refine RunsIn.mono (fun p hp => List.mem_append_left _ hp) ?_
          have hfd' : fromDot below ≠ [] := by rw [hfd]; simp
          have hin2 : (fromDot below = utfR ∨ fromDot below = isoR) := by rw [hfd]; exact hin
          rw [modifiedL, if_pos rfl, if_neg hfd', if_pos hin2]
          exact h1
        · have hin' : ¬ Dat.list (List.map runD (r :: post)) ∈ [Dat.list (List.map runD utfR), Dat.list (List.map runD isoR)] := by
            intro h
            simp only [List.mem_cons, List.not_mem_nil, or_false, Dat.list.injEq, runD_inj] at h
            exact hin h
          k_steps
          (rename Fr h₀ L _ _ => kF); (rename News h₀ L _ _ => kN)
          have kx := news_ext (news := news) kN (by ktr_rel)
          refine hret _ _ _ _ kF kx.1 kx.2.1 ?_
          refine RunsIn.mono kx.2.2 ?_
          have hfd' : fromDot below ≠ [] := by rw [hfd]; simp
          have hin2 : ¬ (fromDot below = utfR ∨ fromDot below = isoR) := by rw [hfd]; exact hin
          rw [modifiedL, if_pos rfl, if_neg hfd', if_neg hin2]
          refine' RunsIn.mk (by k_mem) ?zkm3
          (case zkm3 => refine RunsAll.append ?zkm4 ?zkm5; (case zkm4 => tb_rel); (case zkm5 => tb_rel)))
  · have he' : List.map runD above ≠ [Dat.list [Dat.str (Str.ofString "euro"), Dat.int 1]] := fun q => he (runD_inj (qs := euroR) |>.mp q)
    refine wpAny_call ?_
    (k_dflt (refine' code_defC ?k1 ?k2 ?k3 ?k4 ?k5 ?kA ?kF ?kK ?k6 ?k7 ?k8 ?k9 ?kB ?kD ?_ ?c2 ?c3 ?c4; (case kA => exact rfl); (case kF => exact rfl); (case kK => assumption); (case k1 => k_asm); (case k2 => k_asm); (case k3 => k_asm); (case k4 => k_asm); (case k5 => k_asm); (case k6 => k_is); (case k7 => k_is); (case k8 => ktr_room); (case k9 => exact BindsTo.of_eq rfl); (case kB => exact rfl); (case kD => decide +kernel); (case c2 => exact rfl); (case c3 => exact rfl); (case c4 => exact rfl); k_whole))
    intro g' L' h' tk' cells' FG' F' N' Y' B' X' T' l1
    k_cells Y'
    (try simp only [List.cons_append, List.nil_append] at N')
    (try dsimp only)
    (try k_fold)
    k_steps
    (rename Fr h₀ L _ _ => kF); (rename News h₀ L _ _ => kN)
    have kx := news_ext (news := news) kN (by ktr_rel)
    refine hret _ _ _ _ kF kx.1 kx.2.1 ?_
    refine RunsIn.mono kx.2.2 ?_
    simp only [modifiedL, if_neg he]
    tb_rel
end
section
set_option maxRecDepth 100000 in
set_option maxHeartbeats 2000000 in
theorem build_cc {w : World} {news : List (Addr × Obj)} {a1 : Addr} {x y : Str} {t1 t2 : Tok} {n1 : Nat} (h1 : (a1, ({ cls := .type "tuple", data := .seq [Value.str x t1, Value.str y t2].toArray n1 } : Obj)) ∈ news) (hx : x.length ≤ 10000) (hy : y.length ≤ 10000) :
    Tel w 42 news [.ref a1] 30 (fun _ r => ∃ t, r = .str (x ++ Str.ofString "." ++ y) t) := by
  unfold Tel
  w_top off
  k_fill
  intro mean mg mb dp un gd cn cs a ccd cl outer A₀ base h₀ L m s Q E B F X N T hk hd hu hret
  refine wpAny_call ?_
  k_dflt ktr_enter
  k_steps
  (rename Fr h₀ L _ _ => kF); (rename News h₀ L _ _ => kN)
  have kx := news_ext (news := news) kN (by ktr_rel)
  exact hret _ _ _ _ kF kx.1 kx.2.1 ⟨_, rfl⟩
set_option maxRecDepth 100000 in
set_option maxHeartbeats 2000000 in
theorem build_nc {w : World} {news : List (Addr × Obj)} {a1 : Addr} {y : Str} {t2 : Tok} {n1 : Nat} (h1 : (a1, ({ cls := .type "tuple", data := .seq [Value.none, Value.str y t2].toArray n1 } : Obj)) ∈ news) (hy : y.length ≤ 10000) :
    Tel w 42 news [.ref a1] 30 (fun _ r => ∃ t, r = .str (Str.ofString "C" ++ Str.ofString "." ++ y) t) := by
  unfold Tel
  w_top off
  k_fill
  intro mean mg mb dp un gd cn cs a ccd cl outer A₀ base h₀ L m s Q E B F X N T hk hd hu hret
  refine wpAny_call ?_
  k_dflt ktr_enter
  k_steps
  (rename Fr h₀ L _ _ => kF); (rename News h₀ L _ _ => kN)
  have kx := news_ext (news := news) kN (by ktr_rel)
  exact hret _ _ _ _ kF kx.1 kx.2.1 ⟨_, rfl⟩
set_option maxRecDepth 100000 in
set_option maxHeartbeats 2000000 in
theorem build_cn {w : World} {news : List (Addr × Obj)} {a1 : Addr} {x : Str} {t1 : Tok} {n1 : Nat} (h1 : (a1, ({ cls := .type "tuple", data := .seq [Value.str x t1, Value.none].toArray n1 } : Obj)) ∈ news) :
    Tel w 42 news [.ref a1] 30 (fun _ r => ∃ t, r = .str (x) t) := by
  unfold Tel
  w_top off
  k_fill
  intro mean mg mb dp un gd cn cs a ccd cl outer A₀ base h₀ L m s Q E B F X N T hk hd hu hret
  refine wpAny_call ?_
  k_dflt ktr_enter
  k_steps
  (rename Fr h₀ L _ _ => kF); (rename News h₀ L _ _ => kN)
  have kx := news_ext (news := news) kN (by ktr_rel)
  exact hret _ _ _ _ kF kx.1 kx.2.1 ⟨_, rfl⟩
set_option maxRecDepth 100000 in
set_option maxHeartbeats 2000000 in
theorem build_nn {w : World} {news : List (Addr × Obj)} {a1 : Addr} {n1 : Nat} (h1 : (a1, ({ cls := .type "tuple", data := .seq [Value.none, Value.none].toArray n1 } : Obj)) ∈ news) :
    Tel w 42 news [.ref a1] 30 (fun _ r => ∃ t, r = .str (Str.ofString "C") t) := by
  unfold Tel
  w_top off
  k_fill
  intro mean mg mb dp un gd cn cs a ccd cl outer A₀ base h₀ L m s Q E B F X N T hk hd hu hret
  refine wpAny_call ?_
  k_dflt ktr_enter
  k_steps
  (rename Fr h₀ L _ _ => kF); (rename News h₀ L _ _ => kN)
  have kx := news_ext (news := news) kN (by ktr_rel)
  exact hret _ _ _ _ kF kx.1 kx.2.1 ⟨_, rfl⟩
end
section
def appendL (x y : Str) : Str :=
  if (y == Str.ofString "euro") = true then
    if (Builtin.Str.occurrences x (Str.ofString ".") 0 x.length 1).isEmpty = true then x ++ Str.ofString ".ISO8859-15"
    else if ([Str.ofString "ISO8859-15", Str.ofString "UTF-8"].any fun z => z == (Txt.partition x (Str.ofString ".")).2.2) = true then x
    else x ++ Str.ofString "@" ++ y
  else x ++ Str.ofString "@" ++ y
set_option maxRecDepth 100000 in
set_option maxHeartbeats 2000000 in
theorem append_tel {w : World} {news : List (Addr × Obj)} {x y : Str} {t1 t2 : Tok} (hx : x.length ≤ 10000) (hy : y.length ≤ 10000)
    (hno : (y == Str.ofString "euro") = true → ((Txt.partition x (Str.ofString ".")).2.2 == Str.ofString "ISO8859-1") = false) :
    Tel w 35 news [.str x t1, .str y t2] 30 (fun _ r => ∃ t, r = .str (appendL x y) t) := by
  unfold Tel
  w_top off
  k_fill
  intro mean mg mb dp un gd cn cs a ccd cl outer A₀ base h₀ L m s Q E B F X N T hk hd hu hret
  cases hq : (y == Str.ofString "euro") with
  | false =>
    refine wpAny_call ?_
    k_dflt ktr_enter
    k_steps
    (rename Fr h₀ L _ _ => kF); (rename News h₀ L _ _ => kN)
    have kx := news_ext (news := news) (cb_drop (news := news) kN (by kd_subs)) Ext.base
    exact hret _ _ _ _ kF kx.1 kx.2.1 ⟨_, by rw [appendL, if_neg (by rw [hq]; exact Bool.false_ne_true)]⟩
  | true =>
    have hno2 := hno hq
    cases ho : (Builtin.Str.occurrences x (Str.ofString ".") 0 x.length 1).isEmpty with
    | true =>
      refine wpAny_call ?_
      k_dflt ktr_enter
      k_steps
      (rename Fr h₀ L _ _ => kF); (rename News h₀ L _ _ => kN)
      have kx := news_ext (news := news) (cb_drop (news := news) kN (by kd_subs)) Ext.base
      exact hret _ _ _ _ kF kx.1 kx.2.1 ⟨_, by rw [appendL, if_pos hq, if_pos ho]⟩
    | false =>
      have hof : ¬ (Builtin.Str.occurrences x (Str.ofString ".") 0 x.length 1).isEmpty = true := by rw [ho]; exact Bool.false_ne_true
      cases ha : ([Str.ofString "ISO8859-15", Str.ofString "UTF-8"].any fun z => z == (Txt.partition x (Str.ofString ".")).2.2) with
      | true =>
        refine wpAny_call ?_
        k_dflt ktr_enter
        k_steps
        (rename Fr h₀ L _ _ => kF); (rename News h₀ L _ _ => kN)
        have kx := news_ext (news := news) (cb_drop (news := news) kN (by kd_subs)) Ext.base
        exact hret _ _ _ _ kF kx.1 kx.2.1 ⟨_, by rw [appendL, if_pos hq, if_neg hof, if_pos ha]⟩
      | false =>
        refine wpAny_call ?_
        k_dflt ktr_enter
        k_steps
        (rename Fr h₀ L _ _ => kF); (rename News h₀ L _ _ => kN)
        have kx := news_ext (news := news) (cb_drop (news := news) kN (by kd_subs)) Ext.base
        exact hret _ _ _ _ kF kx.1 kx.2.1 ⟨_, by rw [appendL, if_pos hq, if_neg hof, if_neg (by rw [ha]; exact Bool.false_ne_true)]⟩
end
section
theorem wp_toks {α : Type} {M : Model} {A : Around} {t : Sem α} {Q : α → Shared → Prop} {E : Value → Shared → Prop} {h : Heap} {g : Array GenState} {d : Drawn} {n : Nat} {os : OsState} (H : ∀ k, wpAny M A t Q E ⟨h, g, d, k, os⟩) : wpAny M A t Q E ⟨h, g, d, n + 1, os⟩ := H _
local macro_rules | `(tactic| walk_at "execs cons") => `(tactic| (k_here; (with_reducible refine wp_toks ?_); intro tk))
local macro_rules | `(tactic| walk_at "execs nil") => `(tactic| (k_here; (with_reducible refine wp_toks ?_); intro tk))
local macro_rules | `(tactic| walk_at "exec For Tuple Name cons nil") => `(tactic| (k_here; (rename Fr _ _ _ _ => lF'); k_dflt (refine For_turns lF' ?_)))
local macro_rules | `(tactic| walk_at "binaryOp Mult ref int") => `(tactic| (k_here; (with_reducible show wpAny _ _ (binaryOp Operator.Mult (Value.ref _) (Value.int _ _)) _ _ _); k_dflt (refine' my_mul ?F ?N ?a ?p ?q ?_; (case F => k_asm); (case N => k_asm); (case a => k_mem); (case p => first | assumption | omega); (case q => omega)); intro D' h' F' N' l1))
def toldJ (news : List (Addr × Obj)) (rs : List Run) (i : Nat) (m : Str → Option Value) (nx : List (Addr × Obj)) : Prop :=
  ∃ tl, nx = news ++ tl ∧ (∀ q ∈ news, ∀ p ∈ tl, q.1 ≠ p.1) ∧ ∃ a us n t, m (Str.ofString "told") = some (.ref a) ∧ (a, W.listOf us.toArray n) ∈ nx ∧ DatAll nx us ((rs.take i).foldl toldStep ([], Str.ofString "")).1 ∧ m (Str.ofString "ahead") = some (.str ((rs.take i).foldl toldStep ([], Str.ofString "")).2 t)
set_option maxRecDepth 100000 in
set_option maxHeartbeats 4000000 in
theorem told_tel {w : World} {news : List (Addr × Obj)} {v : Value} {rs : List Run} (h1 : RunsIn news v rs) (hpos : ∀ r ∈ rs, 1 ≤ r.2) (hsz : sizeL rs ≤ 1000) :
    Tel w 247 news [v] 20 (fun nl r => DatIn nl r (Dat.list (toldL rs))) := by
  unfold Tel
  w_top off
  k_fill
  intro mean mg mb dp un gd cn cs a ccd cl outer A₀ base h₀ L m s Q E B F X N T hk hd hu hret
  obtain ⟨a1, vs1, n1, rfl, m1, d1⟩ := h1.inv
  refine wpAny_call ?_
  k_dflt ktr_enter
  repeat' ((fail_if_success (with_reducible show wpAny _ _ (pyIter _) _ _ _)); (first | (k_unfold; (try dsimp only)) | walk1 | (dsimp only; walk1)))
  (rename Fr _ _ _ _ => F1)
  (rename News _ _ _ _ => N1)
  have N2 := news_swap N1
  refine my_turns (fun i m nx => toldJ news rs i m nx) rfl (List.mem_append_left _ m1) F1 N2 ⟨_, rfl, ord_one (by assumption), _, _, _, _, rfl, mem_one, .nil, rfl⟩ ?turn ?done
  (case done =>
    intro m₁ nx h tk hml hJ F2 N3
    obtain ⟨tl, rfl, hord, ar, us, nu, tt, hmt, hmu, hdu, hma⟩ := hJ
    have F3 := fr_know F2 hmt
    clear F2 N2 N1 F1
    rw [d1.length, List.take_length] at hdu
    k_steps
    (rename Fr h₀ L _ _ => kF); (rename News h₀ L _ _ => kN)
    exact hret _ _ _ _ kF kN hord (.list hmu hdu))
  (case turn =>
    intro i v m₁ nx h tk I oI hv hnI hml hJ F2 N3
    obtain ⟨tl, rfl, hord, ar, us, nu, tt, hmt, hmu, hdu, hma⟩ := hJ
    have hi : i < rs.length := by rw [← d1.length]; exact (List.getElem?_eq_some_iff.mp hv).1
    obtain ⟨ae, te, ue, nne, hxe, hme⟩ := d1.get hi
    obtain rfl : v = .ref ae := by rw [hxe] at hv; exact (Option.some.inj hv).symm
    have F3 := fr_know (x := Str.ofString "told") (fr_know F2 hma) (by rw [if_neg (by decide)]; exact hmt)
    clear F2 N2 N1 F1
    have hnext : (rs.take (i + 1)).foldl toldStep ([], Str.ofString "") = toldStep ((rs.take i).foldl toldStep ([], Str.ofString "")) rs[i] := by
      rw [List.take_add_one, List.getElem?_eq_getElem hi, List.foldl_append]; rfl
    have hlen := told_len (rs.take i) ([], Str.ofString "") fun r hr => hpos r (List.mem_of_mem_take hr)
    have hlen2 := sizeL_take rs i hpos
    have hr1 := hpos rs[i] (List.getElem_mem hi)
    have hr2 := sizeL_mem hpos (List.getElem_mem hi)
    unfold toldJ
    rw [hnext]
    generalize (rs.take i).foldl toldStep ([], Str.ofString "") = st at *
    generalize rs[i] = r at *
    have hlu := hdu.length
    simp only [List.length_nil] at hlen
    have hzu : us.length ≤ 1000 := by omega
    have g3 := div_facts (c := r.2) (k := 3) (by omega) (by omega) (by decide) (by decide)
    have g2 := div_facts (c := r.2) (k := 2) (by omega) (by omega) (by decide) (by decide)
    have g2' := div_facts (c := r.2 - 1) (k := 2) (by omega) (by omega) (by decide) (by decide)
    cases hd1 : (r.1 == Str.ofString ".") with
    | true =>
      k_steps
      (rename Fr _ _ _ _ => kF); (rename News _ _ _ _ => kN)
      have kx := tn_of (news := news) (I := I) (oI := oI) kN (by ktr_rel)
      refine turn_next kF kN kx ⟨List.mem_append_left _ m1, _, rfl, kx.ord, _, _, _, _, by with_unfolding_all rfl, by k_mem, ?_, by with_unfolding_all rfl⟩
      simp only [toldStep, hd1, if_true, Bool.false_eq_true, if_false]
      exact ((hdu.mono (by kd_subs)).append (dat_rep _)).append (dat_rep _)
    | false =>
      cases hd2 : (r.1 == Str.ofString "=") with
      | true =>
        cases hd3 : (st.2 == Str.ofString "@") with
        | true =>
          k_steps
          (rename Fr _ _ _ _ => kF); (rename News _ _ _ _ => kN)
          have kx := tn_of (news := news) (I := I) (oI := oI) kN (by ktr_rel)
          refine turn_next kF kN kx ⟨List.mem_append_left _ m1, _, rfl, kx.ord, _, _, _, _, by with_unfolding_all rfl, by k_mem, ?_, by with_unfolding_all rfl⟩
          simp only [toldStep, hd1, hd2, hd3, if_true, Bool.false_eq_true, if_false]
          exact (((dat_dropLast (hdu.mono (by kd_subs))).append (.cons (.int _ _) .nil)).append (dat_rep _)).append (dat_rep _)
        | false =>
          k_steps
          (rename Fr _ _ _ _ => kF); (rename News _ _ _ _ => kN)
          have kx := tn_of (news := news) (I := I) (oI := oI) kN (by ktr_rel)
          refine turn_next kF kN kx ⟨List.mem_append_left _ m1, _, rfl, kx.ord, _, _, _, _, by with_unfolding_all rfl, by k_mem, ?_, by with_unfolding_all rfl⟩
          simp only [toldStep, hd1, hd2, hd3, if_true, Bool.false_eq_true, if_false]
          exact ((hdu.mono (by kd_subs)).append (dat_rep _)).append (dat_rep _)
      | false =>
        cases hd4 : (r.1 == Str.ofString "@") with
        | true =>
          k_steps
          (rename Fr _ _ _ _ => kF); (rename News _ _ _ _ => kN)
          have kx := tn_of (news := news) (I := I) (oI := oI) kN (by ktr_rel)
          refine turn_next kF kN kx ⟨List.mem_append_left _ m1, _, rfl, kx.ord, _, _, _, _, by with_unfolding_all rfl, by k_mem, ?_, by with_unfolding_all rfl⟩
          simp only [toldStep, hd1, hd2, hd4, if_true, Bool.false_eq_true, if_false]
          exact (hdu.mono (by kd_subs)).append (dat_rep _)
        | false =>
          cases hd5 : (r.1 == Str.ofString "-") with
          | true =>
            k_steps
            (rename Fr _ _ _ _ => kF); (rename News _ _ _ _ => kN)
            have kx := tn_of (news := news) (I := I) (oI := oI) kN (by ktr_rel)
            refine turn_next kF kN kx ⟨List.mem_append_left _ m1, _, rfl, kx.ord, _, _, _, _, by with_unfolding_all rfl, by k_mem, ?_, by with_unfolding_all rfl⟩
            simp only [toldStep, hd1, hd2, hd4, hd5, if_true, Bool.false_eq_true, if_false]
            exact (hdu.mono (by kd_subs)).append (.cons (.int _ _) .nil)
          | false =>
            k_steps
            (rename Fr _ _ _ _ => kF); (rename News _ _ _ _ => kN)
            have kx := tn_of (news := news) (I := I) (oI := oI) kN (by ktr_rel)
            refine turn_next kF kN kx ⟨List.mem_append_left _ m1, _, rfl, kx.ord, _, _, _, _, by with_unfolding_all rfl, by k_mem, ?_, by with_unfolding_all rfl⟩
            simp only [toldStep, hd1, hd2, hd4, hd5, if_true, Bool.false_eq_true, if_false]
            exact (hdu.mono (by kd_subs)).append (.cons (.str _ _) .nil))
end
section
local macro_rules | `(tactic| walk_at "call builtin:len cons nil") => `(tactic| (k_here; (with_reducible show wpAny _ _ (call (Value.builtin _) [Value.str _ _]) _ _ _); k_dflt (refine' my_lenS ?z ?_; (case z => omega); k_whole); intro t' tk'))
local macro_rules | `(tactic| walk_at "compareOp In str ref") => `(tactic| (k_here; (with_reducible show wpAny _ _ (compareOp CmpOp.In (Value.str _ _) (Value.ref _)) _ _ _); k_dflt (refine' my_inD ?F ?X ?_; (case F => k_asm); (case X => k_asm); k_whole); intro tk'))
local macro_rules | `(tactic| walk_at "subscriptTail") => `(tactic| (k_here; (with_reducible show wpAny _ _ (subscriptTail _ _ (Value.ref _) (Value.str _ _)) _ _ _); k_dflt (refine' my_itemD ?F ?X ?x ?_ ?a ?b; (case F => k_asm); (case X => k_asm); (case x => with_reducible assumption); (case a => with_unfolding_all rfl); (case b => intro _; with_unfolding_all rfl); k_whole); intro u' tk'))
local macro_rules | `(tactic| walk_at "exec Assign cons ListComp") => `(tactic| (k_here; k_dflt (refine comp_tuple (by k_asm) (by with_unfolding_all rfl) (by with_unfolding_all rfl) (by decide) (by rfl) (by decide) (by rfl) (by rfl) (by rfl) ?_)))
local macro_rules | `(tactic| walk_at "call builtin:list.append") => `(tactic| (k_here; (with_reducible show wpAny _ _ (call (Value.builtin _) [Value.ref _, _]) _ _ _); k_dflt (refine' my_append ?F ?N ?m ?n ?s ?z ?_; (case F => k_asm); (case N => k_asm); (case m => k_mem); (case n => with_reducible assumption); (case s => kd_subs); (case z => omega)); intro h' F' N'))
theorem comp_three {prog : Program} {w : World} {A : Around} {h₀ : Heap} {L : Addr} {m : Str → Option Value} {env : Env} {ct elt : PySem.Expr} {x : Str} {scope : Scope} {cl : List (Str × Addr)} {s : Shared} {S : List (Addr × Obj) → Prop} {P : Nat → Value → Prop} {Fin : List Value → List (Addr × Obj) → Prop} {news : List (Addr × Obj)} {R : Nat → List Value → Prop} (r : R 0 [])
    (s0 : ∀ ys, R 0 ys → (∀ ys', R 1 ys' → LCt.CompRestT prog w A h₀ L m env ct elt x scope cl s S P Fin 2 1 ys' news) → LCt.CompRestT prog w A h₀ L m env ct elt x scope cl s S P Fin 3 0 ys news)
    (s1 : ∀ ys, R 1 ys → (∀ ys', R 2 ys' → LCt.CompRestT prog w A h₀ L m env ct elt x scope cl s S P Fin 1 2 ys' news) → LCt.CompRestT prog w A h₀ L m env ct elt x scope cl s S P Fin 2 1 ys news)
    (s2 : ∀ ys, R 2 ys → (∀ ys', R 3 ys' → LCt.CompRestT prog w A h₀ L m env ct elt x scope cl s S P Fin 0 3 ys' news) → LCt.CompRestT prog w A h₀ L m env ct elt x scope cl s S P Fin 1 2 ys news)
    (fin : ∀ ys, R 3 ys → Fin ys news) : LCt.CompRestT prog w A h₀ L m env ct elt x scope cl s S P Fin 3 0 [] news :=
  s0 [] r fun y1 h1 => s1 y1 h1 fun y2 h2 => s2 y2 h2 fun y3 h3 => .zero (fin y3 h3)
theorem strs_app1 {x : Str} {t : Tok} : ∀ {us : List Value} {ws : List Str}, StrsAre us ws → StrsAre (us ++ [.str x t]) (ws ++ [x])
  | _, _, .nil => .cons _ _ .nil
  | _, _, .cons y u h => .cons y u (strs_app1 h)
theorem strs_in {ys : List Value} {l : List Str} {b : Str} {t : Tok} (h : StrsAre ys (l.filter inD)) (e : inD b = true) : StrsAre (ys ++ [.str b t]) ((l ++ [b]).filter inD) := by
  rw [List.filter_append, List.filter_cons, if_pos e, List.filter_nil]; exact strs_app1 h
theorem strs_out {ys : List Value} {l : List Str} {b : Str} (h : StrsAre ys (l.filter inD)) (e : inD b = false) : StrsAre ys ((l ++ [b]).filter inD) := by
  rw [List.filter_append, List.filter_cons, if_neg (by rw [e]; decide), List.filter_nil, List.append_nil]; exact h
theorem my_sliceS {prog : Program} {w : World} {A : Around} {h₀ h : Heap} {L : Addr} {m : Str → Option Value} {news : List (Addr × Obj)} {x : Str} {t : Tok} {j : Int} {uj : Tok} {g : Array GenState} {d : Drawn} {k : Nat} {os : OsState} {a : Str} {b q : Pos} {up : Expr} {Q : Value → Shared → Prop} {E : Value → Shared → Prop}
    (hF : Fr h₀ L h m) (hN : News h₀ L h news) (H : ∀ h' t' k', Fr h₀ L h' m → News h₀ L h' news → (Txt.slice x none (some j)).length ≤ x.length → Q (.str (Txt.slice x none (some j)) t') ⟨h', g, d, k', os⟩) (hsz : x.length ≤ sizeLine) :
    wpAny (model prog w) A (subscriptTail (.Name a b) (.Slice none (some up) none q) (.str x t) (.ref h.objs.size)) Q E ⟨h.push { cls := .type "slice", data := .fields #[.none, .int j uj, .none] }, g, d, k, os⟩ :=
  slice_strN_ns_len (s := ⟨h, g, d, k, os⟩) hF hN H (hsz := hsz)
local macro_rules | `(tactic| walk_at "subscriptTail Name Slice str ref") => `(tactic| (k_here; (try dsimp only); (with_reducible show wpAny _ _ (subscriptTail _ (PySem.Expr.Slice none (some _) none _) (Value.str _ _) (Value.ref _)) _ _ _); k_dflt (refine' my_sliceS ?F ?N ?_ ?z; (case F => k_asm); (case N => k_asm); (case z => size_fits)); intro _ _ _ _ _ _))
theorem lt_head {x : Addr × Obj} {l : List (Addr × Obj)} {D : Addr} (h : ∀ p ∈ x :: l, p.1 < D) : x.1 < D ∧ ∀ p ∈ l, p.1 < D := ⟨h _ (.head _), fun p hp => h p (.tail _ hp)⟩
theorem head_of {h₀ h : Heap} {L D : Addr} {o : Obj} {l : List (Addr × Obj)} (_N : News h₀ L h ((D, o) :: l)) : ∃ D0, D0 = D := ⟨_, rfl⟩
set_option maxRecDepth 100000 in
set_option maxHeartbeats 8000000 in
theorem read_tel {w : World} {news : List (Addr × Obj)} {x : Str} {t : Tok} {ts : List Dat} (hsz : x.length ≤ 1000) (hts : ts.length ≤ 1000) (hR : ReadsTo x ts) :
    Tel w 240 news [.str x t] 20 (fun nl r => DatIn nl r (Dat.list ts)) := by
  unfold Tel
  w_top off
  k_fill
  intro mean mg mb dp un gd cn cs a ccd cl outer A₀ base h₀ L m s Q E B F X N T hk hd hu hret
  refine wpAny_call ?_
  (k_dflt (refine' code_defC ?k1 ?k2 ?k3 ?k4 ?k5 ?kA ?kF ?kK ?k6 ?k7 ?k8 ?k9 ?kB ?kD ?_ ?c2 ?c3 ?c4; (case kA => exact rfl); (case kF => exact rfl); (case kK => assumption); (case k1 => k_asm); (case k2 => k_asm); (case k3 => k_asm); (case k4 => k_asm); (case k5 => k_asm); (case k6 => k_is); (case k7 => k_is); (case k8 => ktr_room); (case k9 => exact BindsTo.of_eq rfl); (case kB => exact rfl); (case kD => decide +kernel); (case c2 => exact rfl); (case c3 => exact rfl); (case c4 => exact rfl); k_whole))
  intro g' L' h' tk' cells' FG' F' N' Y' B' X' T' l1
  k_cells Y'
  (try simp only [List.cons_append, List.nil_append] at N')
  (try dsimp only)
  (try k_fold)
  repeat' ((fail_if_success (with_reducible show wpAny _ _ (exec (Stmt.While _ _ _ _) _) _ _ _)); (first | (k_unfold; (try dsimp only)) | walk1 | (dsimp only; walk1)))
  (rename Fr _ _ _ _ => F1)
  (rename News _ _ _ _ => N1)
  (rename Obj.data _ = _ => hod)
  obtain ⟨D0, rfl⟩ := head_of N1
  have q1 := lt_head (l := news) (D := D0) (by assumption)
  have hD1 : L' + 1 ≠ D0 := Nat.ne_of_lt q1.1
  have hD2 : ∀ p ∈ news, p.1 ≠ D0 := fun p hp => Nat.ne_of_lt (q1.2 p hp)
  have hc2 : ∀ p ∈ news, p.1 ≠ L' + 1 := fun p hp => Nat.ne_of_lt (Nat.lt_succ_of_lt (l1 p hp))
  refine my_while (fun c : Str × List Dat × List Dat => c.2.2.length) (fun c s' => c.1.length ≤ 1000 ∧ ReadsTo c.1 c.2.2 ∧ c.2.1 ++ c.2.2 = ts ∧ ∃ h tk mm us k o ty, s' = { s with heap := h, toks := tk } ∧ o.data = .cell (some (.str c.1 ty)) ∧ Fr g' L' h mm ∧ mm (Str.ofString "told") = some (.ref D0) ∧ News g' L' h ((D0, W.listOf us.toArray k) :: (L' + 1, o) :: news) ∧ DatAll [] us c.2.1) (x, [], ts) ⟨hsz, hR, rfl, _, _, _, _, _, _, _, rfl, hod, F1, rfl, N1, .nil⟩ ?turn
  clear hsz hR hod F1 N1
  rintro ⟨y, acc, rest⟩ s' ⟨hy, hR, hacc, h, tk, mm, us, k, o, ty, rfl, hod2, F2, hmm, N2, hdu⟩
  dsimp only at hy hR hacc hod2 hdu
  have F3 := fr_know F2 hmm
  clear F2
  have hrest : ∀ p ∈ (L' + 1, o) :: news, p.1 ≠ D0 := List.forall_mem_cons.mpr ⟨hD1, hD2⟩
  have hul := hdu.length
  have hal := congrArg List.length hacc
  rw [List.length_append] at hal
  have huz : us.length ≤ 1000 := by omega
  by_cases hy0 : y = Str.ofString ""
  · subst hy0
    cases hR with
    | word h => exact absurd rfl h
    | op h => exact absurd rfl h
    | nil =>
    repeat' ((fail_if_success (with_reducible show WhlIf _ _ _)); (first | (k_unfold; (try dsimp only)) | walk1 | (dsimp only; walk1)))
    refine WhlIf.no (by simp) ?_
    k_steps
    (rename Fr h₀ L _ _ => kF); (rename News h₀ L _ _ => kN)
    have kx := news_ext (news := news) (tl := [(D0, W.listOf us.toArray k)]) (nl := (D0, W.listOf us.toArray k) :: news) (cb_drop kN (by kd_subs)) (Ext.cons hD2 Ext.base)
    refine hret _ _ _ _ kF kx.1 kx.2.1 ?_
    rw [List.append_nil] at hacc
    subst hacc
    exact DatIn.list mem_one (hdu.mono (by simp))
  · repeat' ((fail_if_success (with_reducible show WhlIf _ _ _)); (first | (k_unfold; (try dsimp only)) | walk1 | (dsimp only; walk1)))
    refine WhlIf.yes (by simpa using hy0) ?_
    repeat' ((fail_if_success (with_reducible show TupSrc _ _ _ _ _ _ _ _ _ _ _ _ _ _ _ _)); (first | (k_unfold; (try dsimp only)) | walk1 | (dsimp only; walk1)))
    (rename Fr _ _ _ _ => F4)
    (rename News _ _ _ _ => N4)
    refine ⟨_, _, _, _, rfl, rfl, F4, N4, .head _, Nat.le_of_ble_eq_true rfl, ?_⟩
    rintro _ ⟨h5, rfl⟩
    refine comp_three (R := fun i ys => StrsAre ys (List.filter inD (match i with | 0 => [] | 1 => [Txt.slice y none (some 3)] | 2 => [Txt.slice y none (some 3)] ++ [Txt.slice y none (some 2)] | _ => ([Txt.slice y none (some 3)] ++ [Txt.slice y none (some 2)]) ++ [Txt.slice y none (some 1)]))) .nil ?s0 ?s1 ?s2 ?fin
    case s0 =>
      intro ys hys next
      cases hd9 : inD (Txt.slice y none (some 3)) with
      | true =>
        refine LCt.CompRestT.succ ?_
        intro v I oI C oC D m₂ h6 tk6 E6 hv hC hx F6 N6 off ne
        obtain rfl : v = _ := (Option.some.inj hv).symm
        k_steps
        (rename Fr _ _ _ _ => F7); (rename News _ _ _ _ => N7)
        refine LCg.CompEnd.intro F7 N7 _ (fun _ h9 => h9) off (by k_mem) ?_
        exact next _ (strs_in hys hd9)
      | false =>
        refine LCt.CompRestT.succ ?_
        intro v I oI C oC D m₂ h6 tk6 E6 hv hC hx F6 N6 off ne
        obtain rfl : v = _ := (Option.some.inj hv).symm
        k_steps
        (rename Fr _ _ _ _ => F7); (rename News _ _ _ _ => N7)
        refine LCg.CompEnd.intro F7 N7 _ (fun _ h9 => h9) off (by k_mem) ?_
        exact next _ (strs_out hys hd9)
    case s1 =>
      intro ys hys next
      cases hd9 : inD (Txt.slice y none (some 2)) with
      | true =>
        refine LCt.CompRestT.succ ?_
        intro v I oI C oC D m₂ h6 tk6 E6 hv hC hx F6 N6 off ne
        obtain rfl : v = _ := (Option.some.inj hv).symm
        k_steps
        (rename Fr _ _ _ _ => F7); (rename News _ _ _ _ => N7)
        refine LCg.CompEnd.intro F7 N7 _ (fun _ h9 => h9) off (by k_mem) ?_
        exact next _ (strs_in hys hd9)
      | false =>
        refine LCt.CompRestT.succ ?_
        intro v I oI C oC D m₂ h6 tk6 E6 hv hC hx F6 N6 off ne
        obtain rfl : v = _ := (Option.some.inj hv).symm
        k_steps
        (rename Fr _ _ _ _ => F7); (rename News _ _ _ _ => N7)
        refine LCg.CompEnd.intro F7 N7 _ (fun _ h9 => h9) off (by k_mem) ?_
        exact next _ (strs_out hys hd9)
    case s2 =>
      intro ys hys next
      cases hd9 : inD (Txt.slice y none (some 1)) with
      | true =>
        refine LCt.CompRestT.succ ?_
        intro v I oI C oC D m₂ h6 tk6 E6 hv hC hx F6 N6 off ne
        obtain rfl : v = _ := (Option.some.inj hv).symm
        k_steps
        (rename Fr _ _ _ _ => F7); (rename News _ _ _ _ => N7)
        refine LCg.CompEnd.intro F7 N7 _ (fun _ h9 => h9) off (by k_mem) ?_
        exact next _ (strs_in hys hd9)
      | false =>
        refine LCt.CompRestT.succ ?_
        intro v I oI C oC D m₂ h6 tk6 E6 hv hC hx F6 N6 off ne
        obtain rfl : v = _ := (Option.some.inj hv).symm
        k_steps
        (rename Fr _ _ _ _ => F7); (rename News _ _ _ _ => N7)
        refine LCg.CompEnd.intro F7 N7 _ (fun _ h9 => h9) off (by k_mem) ?_
        exact next _ (strs_out hys hd9)
    case fin =>
      intro ys hys
      replace hys : StrsAre ys (piecesL y) := hys
      unfold LCg.FinA
      intro D2 h8 tk8 F8 N8 off8
      (try dsimp only)
      (try clear F4); (try clear N4); (try clear F3); (try clear N2)
      cases hR with
      | nil => exact absurd rfl hy0
      | word hne hpc hn1 hn2 hal1 hal2 hR2 =>
        rename_i n ts2
        rw [hpc] at hys
        cases hys
        repeat' ((fail_if_success (with_reducible show wpAny _ _ (exec (Stmt.While _ _ _ _) _) _ _ _)); (first | (k_unfold; (try dsimp only)) | walk1 | (dsimp only; walk1)))
        (rename Fr _ _ _ _ => F9)
        (rename News _ _ _ _ => N9)
        have N10 : News g' L' _ ((D0, W.listOf us.toArray k) :: (L' + 1, o) :: news) := cb_drop N9 (by kd_subs)
        refine my_while (fun c : Int => (n - c).toNat) (fun c s' => 1 ≤ c ∧ c ≤ n ∧ ∃ h tk mm tz, s' = { s with heap := h, toks := tk } ∧ Fr g' L' h mm ∧ mm (Str.ofString "told") = some (.ref D0) ∧ mm (Str.ofString "size") = some (.int c tz) ∧ News g' L' h ((D0, W.listOf us.toArray k) :: (L' + 1, o) :: news)) 1 ⟨Int.le_refl _, hn1, _, _, _, _, rfl, F9, rfl, rfl, N10⟩ ?turn2
        (try clear F9); (try clear N9); (try clear N10); (try clear N8); (try clear F8); (try clear off8)
        rintro c s' ⟨hc1, hc3, hh, tkk, mm2, tz, rfl, F11, hm1, hm2, N11⟩
        have F12 := fr_know (x := Str.ofString "size") (fr_know F11 hm1) (by rw [if_neg (by decide)]; exact hm2)
        clear F11
        by_cases hcn : c = n
        · subst hcn
          repeat' ((fail_if_success (with_reducible show WhlIf _ _ _)); (first | (k_unfold; (try dsimp only)) | walk1 | (dsimp only; walk1)))
          refine WhlIf.no hal2 ?_
          k_steps
          (rename Fr _ _ _ _ => F13)
          (rename News _ _ _ _ => N13)
          refine my_storeC (rest := (D0, W.listOf (us ++ [_]).toArray (k + 1)) :: news) F13 N13 (by k_mem) (List.forall_mem_cons.mpr ⟨hD1.symm, hc2⟩) (by kd_subs) rfl rfl rfl hod2 (fun h14 o14 F14 N14 hd14 => ?_)
          (try dsimp only)
          k_steps
          (rename Fr _ _ _ _ => F15)
          refine ⟨(_, acc ++ [_], ts2), ?_, ?_, hR2, ?_, _, _, _, us ++ [_], k + 1, o14, _, rfl, hd14, F15, rfl, cb_drop N14 (by kd_subs), hdu.append (.cons (.str _ _) .nil)⟩
          · show ts2.length < (_ :: ts2).length
            simp
          · exact Nat.le_trans (Txt.slice_le _ _ _) hy
          · simpa using hacc
        · have hal3 := hal1 c hc1 (by omega)
          repeat' ((fail_if_success (with_reducible show WhlIf _ _ _)); (first | (k_unfold; (try dsimp only)) | walk1 | (dsimp only; walk1)))
          refine WhlIf.yes hal3 ?_
          k_steps
          (rename Fr _ _ _ _ => F13)
          (rename News _ _ _ _ => N13)
          exact ⟨c + 1, (by show (n - (c + 1)).toNat < (n - c).toNat; omega), by omega, by omega, _, _, _, _, rfl, F13, rfl, rfl, cb_drop N13 (by kd_subs)⟩
      | op hne hpc hR2 =>
        rename_i p ps ts2
        rw [hpc] at hys
        have hsd := strs_dat (news := []) hys
        cases hys with
        | cons _ tp hys2 =>
        have hin : inD p = true := by
          have : p ∈ piecesL y := by rw [hpc]; exact .head _
          exact (List.mem_filter.mp this).2
        have hko : ∀ d ∈ (p :: ps).map Dat.str, kqdOk 8 d = true := by
          intro d hd
          obtain ⟨q, hq, rfl⟩ := List.mem_map.mp hd
          have : q ∈ piecesL y := by rw [hpc]; exact hq
          simpa [kqdOk] using strOk_D (List.mem_filter.mp this).2
        simp only [List.map_cons] at hko hsd
        have hpz : p.length ≤ 1000 := by
          have : p ∈ piecesL y := by rw [hpc]; exact .head _
          have h9 := (List.mem_filter.mp this).1
          simp only [List.mem_cons, List.not_mem_nil, or_false] at h9
          rcases h9 with h9 | h9 | h9 <;> rw [h9] <;> exact Nat.le_trans (Txt.slice_le _ _ _) hy
        k_steps
        (rename Fr _ _ _ _ => F13)
        (rename News _ _ _ _ => N13)
        refine my_storeC (rest := (D0, W.listOf (us ++ [_]).toArray (k + 1)) :: news) F13 N13 (by k_mem) (List.forall_mem_cons.mpr ⟨hD1.symm, hc2⟩) (by kd_subs) rfl rfl rfl hod2 (fun h14 o14 F14 N14 hd14 => ?_)
        (try dsimp only)
        k_steps
        (rename Fr _ _ _ _ => F15)
        refine ⟨(_, acc ++ [_], ts2), ?_, ?_, hR2, ?_, _, _, _, us ++ [_], k + 1, o14, _, rfl, hd14, F15, rfl, cb_drop N14 (by kd_subs), hdu.append (.cons (.int _ _) .nil)⟩
        · show ts2.length < (_ :: ts2).length
          simp
        · exact Nat.le_trans (Txt.slice_le _ _ _) hy
        · simpa using hacc
end
section
section
def Tel0 (w : World) (f : Addr) (news : List (Addr × Obj)) (vs : List Value) (S : Nat) (Out : List (Addr × Obj) → Value → Prop) : Prop :=
  ∀ (mean : ExcName → Option Value) (mg mb : Str → Option Value) (dp un : Nat) (gd : Option (List Code)) (cn : Str) (cs : Scope) (a : Addr) (ccd : Value) (A₀ : Around) (h₀ : Heap) (L : Addr) (m : Str → Option Value) (s : Shared)
    (Q E : Value → Shared → Prop),
    Below A₀ h₀ [] h₀ → Fr h₀ L s.heap m → (Mine.hd.heap_39 w.params).In h₀ → News h₀ L s.heap news → Top Mine.hd.view_39 (looseW Mine.hd.view_39 [Str.ofString "locale_encoding_alias", Str.ofString "EXACT_TOKEN_TYPES"]) mean mg mb h₀ → cs.kind = .function → dp + S < recursionLimit → un + 8 * S < cLine →
    (∀ r tl h' tk', Fr h₀ L h' m → News h₀ L h' (news ++ tl) → (∀ q ∈ news, ∀ p ∈ tl, q.1 ≠ p.1) → Out (news ++ tl) r → Q r { s with heap := h', toks := tk' }) →
    wpAny (model PySem.Challenge.rw_il0204_01.row.prog w) (ktrTop dp un gd cn cs L a ccd [] []) (call (.ref f) vs) Q E s
local macro_rules | `(tactic| walk_at "exec For Name List cons nil") => `(tactic| (k_here; (rename Fr _ _ _ _ => lF'); k_dflt (refine wpAny_For ?_)))
local macro_rules | `(tactic| walk_at "call ref") => `(tactic| (k_here; (refine wpAny_call ?_); k_dflt (refine' code_def ?k1 ?k2 ?k3 ?k4 ?k5 ?kA ?kF ?kK ?k6 ?k7 ?k8 ?k9 ?kB ?_ ?c2 ?c3 ?c4 ?c5; (case kA => exact rfl); (case kF => exact rfl); (case kK => exact rfl); (case k1 => k_asm); (case k2 => k_asm); (case k3 => k_asm); (case k4 => k_asm); (case k5 => k_asm); (case k6 => k_is); (case k7 => k_is); (case k8 => ktr_room); (case k9 => exact BindsTo.of_eq rfl); (case c5 => decide); (case kB => exact locs rfl); (case c2 => exact rfl); (case c3 => exact rfl); (case c4 => exact rfl); k_whole); intro g' L' h' FG' F' N' B' X' T'; (try dsimp only); (try k_fold)))
local macro_rules | `(tactic| walk_at "assign Tuple cons ref") => `(tactic| (k_here; k_dflt (refine' assign_few ?uN ?um ?uh ?un ?us ?_; (case uN => k_asm); (case um => k_mem); (case uh => rfl); (case un => rfl); (case us => rfl)); intro h' tk' e' x'))
local macro_rules | `(tactic| walk_at "assign Tuple cons ref") => `(tactic| (k_here; k_dflt (refine' assign_many ?uN ?um ?uh ?un ?us ?_; (case uN => k_asm); (case um => k_mem); (case uh => rfl); (case un => rfl); (case us => rfl)); intro h' tk' e' x'))
local macro_rules | `(tactic| walk_at "assign Tuple cons int") => `(tactic| (k_here; k_dflt (refine' assign_int ?uh ?un ?us ?_; (case uh => rfl); (case un => rfl); (case us => rfl)); intro h' tk' e' x'))
local macro_rules | `(tactic| walk_at "binaryOp Add str int") => `(tactic| (k_here; k_dflt (refine' add_str_int ?uh ?_; (case uh => rfl)); intro h' tk' e' x'))
local macro_rules | `(tactic| walk_at "binaryOp Add int str") => `(tactic| (k_here; k_dflt (refine' add_int_str ?uh ?_; (case uh => rfl)); intro h' tk' e' x'))
local macro_rules | `(tactic| walk_at "noteFrame ref") => `(tactic| (k_here; (with_reducible rename Heap.NewExc _ _ _ _ => rX'); k_dflt (refine' refuse ?uX ?uK rX' ?uF ?uN ?ug ?ub ?u1 ?u2 ?u3 ?u4 ?_; (case uX => first | exact .inl rfl | exact .inr rfl); (case uK => k_asm); (case uF => k_asm); (case uN => k_asm); (case ug => exact TopRead.g (by k_asm)); (case ub => exact TopRead.b (by k_asm)); (case u1 => exact TopRead.free (by k_asm) _ (by decide +kernel) (by decide +kernel) (by decide +kernel) (by decide +kernel) (by decide +kernel)); (case u2 => exact (TopRead.builtins (by k_asm) _ (by decide +kernel)).trans PyProof.Rows.Boot.«TypeError»); (case u3 => exact TopRead.free (by k_asm) _ (by decide +kernel) (by decide +kernel) (by decide +kernel) (by decide +kernel) (by decide +kernel)); (case u4 => exact (TopRead.builtins (by k_asm) _ (by decide +kernel)).trans PyProof.Rows.Boot.«ValueError»); k_whole); intro h' tk' e' t' u' rC'))
local macro_rules | `(tactic| walk_at "leaving ref") => `(tactic| (k_here; (with_reducible rename RaisedC _ _ _ _ _ _ _ _ _ _ => rC'); k_dflt (refine' leave_C ?uK rC' ?_; (case uK => k_asm); k_whole); intro h' S' R' U'; (try dsimp only at S' R' U' ⊢)))
set_option maxRecDepth 100000 in
set_option maxHeartbeats 4000000 in
theorem refused_tel {w : World} {news : List (Addr × Obj)} {x : Str} {t : Tok} (hx : x.length ≤ 10000) :
    Tel0 w 266 news [.str x t] 40 (fun _ r => ∃ t, r = .int 5 t) := by
  unfold Tel0
  w_top off
  k_fill
  intro mean mg mb dp un gd cn cs a ccd A₀ h₀ L m s Q E B₀ F₀ X₀ N₀ T₀ hk hd hu hret
  refine wpAny_call ?_
  k_dflt (refine' code_defS0 ?k1 ?k2 ?k3 ?k4 ?k5 ?kA ?k6 ?k7 ?k8 ?k9 ?kB ?_ ?cK ?c2 ?c3 ?c4 ?c5; (case kA => exact rfl); (case k1 => k_asm); (case k2 => k_asm); (case k3 => k_asm); (case k4 => k_asm); (case k5 => k_asm); (case k6 => k_is); (case k7 => k_is); (case k8 => ktr_room); (case k9 => exact BindsTo.of_eq rfl); (case c5 => decide); (case kB => exact locs rfl); (case cK => assumption); (case c2 => exact rfl); (case c3 => exact rfl); (case c4 => exact rfl); k_whole)
  intro g₁ L₁ h₁ FG₁ F₁ N₁ B₁ X₁ T₁ D₁
  (try dsimp only); (try k_fold)
  repeat' ((fail_if_success (with_reducible show wpAny _ _ (pyIter _) _ _ _)); (first | (k_unfold; (try dsimp only)) | walk1 | (dsimp only; walk1)))
  (rename Fr _ _ _ _ => F1)
  (rename News _ _ _ _ => N1)
  refine ground_turns (fun i g m' => KtsTurn (List.filterMap (fun x => x.frame) [envOf cn cs L a ccd]) g₁ g ∧ Below (ktrTop dp un gd cn cs L a ccd [] []) h₀ [envOf cn cs L a ccd] g ∧ (Mine.hd.heap_39 w.params).In g ∧
    Top Mine.hd.view_39 (looseW Mine.hd.view_39 [Str.ofString "locale_encoding_alias", Str.ofString "EXACT_TOKEN_TYPES"]) mean mg mb g ∧ KtsDicts (List.filterMap (fun x => x.frame) [envOf cn cs L a ccd]) g ∧ m' (Str.ofString "name") = some (.str x t) ∧ ∃ u, m' (Str.ofString "refused") = some (.int (i : Int) u))
    rfl (.head _) F1 N1 ⟨KtsTurn.refl, B₁, X₁, T₁, D₁, rfl, _, rfl⟩ ?turn ?done ?own
  (case own => first | passes_own | with_unfolding_all passes_own)
  (case done =>
    rintro g m₁ h tk ⟨hT, hB, hX, hTop, hD, hnm, u, hrf⟩ F2 N2
    have F3 := fr_know F2 hrf
    clear F2 F1 N1 B₁ X₁ T₁ D₁
    k_steps
    (rename Fr h₀ L _ _ => kF); (rename News h₀ L _ _ => kN)
    have kx := news_ext (news := news) (cb_drop (news := news) kN (by kd_subs)) Ext.base
    exact hret _ _ _ _ kF kx.1 kx.2.1 ⟨_, rfl⟩)
  (case turn =>
    rintro i v g m₁ h tk I oI hv ⟨hT, hB, hX, hTop, hD, hnm, u, hrf⟩ F2 N2 hnI
    have F3 := fr_know (x := Str.ofString "name") (fr_know F2 hrf) (by rw [if_neg (by decide)]; exact hnm)
    clear F2 F1 N1 B₁ X₁ T₁ D₁
    rcases i with _ | _ | _ | _ | _ | i
    · obtain rfl := (Option.some.inj hv).symm
      k_steps
      ((rename KtsTurn _ _ _ => kT); (rename Below _ _ _ _ => kB); (rename Frag.In _ _ => kX); (rename Top _ _ _ _ _ _ => kTop); (rename KtsDicts _ _ => kD); (rename Fr _ _ _ _ => kF); (rename News _ _ _ _ => kN); exact ⟨.inl rfl, _, _, _, _, rfl, ⟨kT, kB, kX, kTop, kD, rfl, _, rfl⟩, kF, cb_drop kN (by kd_subs)⟩)
    · obtain rfl := (Option.some.inj hv).symm
      k_steps
      ((rename KtsTurn _ _ _ => kT); (rename Below _ _ _ _ => kB); (rename Frag.In _ _ => kX); (rename Top _ _ _ _ _ _ => kTop); (rename KtsDicts _ _ => kD); (rename Fr _ _ _ _ => kF); (rename News _ _ _ _ => kN); exact ⟨.inl rfl, _, _, _, _, rfl, ⟨kT, kB, kX, kTop, kD, rfl, _, rfl⟩, kF, cb_drop kN (by kd_subs)⟩)
    · obtain rfl := (Option.some.inj hv).symm
      k_steps
      ((rename KtsTurn _ _ _ => kT); (rename Below _ _ _ _ => kB); (rename Frag.In _ _ => kX); (rename Top _ _ _ _ _ _ => kTop); (rename KtsDicts _ _ => kD); (rename Fr _ _ _ _ => kF); (rename News _ _ _ _ => kN); exact ⟨.inl rfl, _, _, _, _, rfl, ⟨kT, kB, kX, kTop, kD, rfl, _, rfl⟩, kF, cb_drop kN (by kd_subs)⟩)
    · obtain rfl := (Option.some.inj hv).symm
      k_steps
      ((rename KtsTurn _ _ _ => kT); (rename Below _ _ _ _ => kB); (rename Frag.In _ _ => kX); (rename Top _ _ _ _ _ _ => kTop); (rename KtsDicts _ _ => kD); (rename Fr _ _ _ _ => kF); (rename News _ _ _ _ => kN); exact ⟨.inl rfl, _, _, _, _, rfl, ⟨kT, kB, kX, kTop, kD, rfl, _, rfl⟩, kF, cb_drop kN (by kd_subs)⟩)
    · obtain rfl := (Option.some.inj hv).symm
      k_steps
      ((rename KtsTurn _ _ _ => kT); (rename Below _ _ _ _ => kB); (rename Frag.In _ _ => kX); (rename Top _ _ _ _ _ _ => kTop); (rename KtsDicts _ _ => kD); (rename Fr _ _ _ _ => kF); (rename News _ _ _ _ => kN); exact ⟨.inl rfl, _, _, _, _, rfl, ⟨kT, kB, kX, kTop, kD, rfl, _, rfl⟩, kF, cb_drop kN (by kd_subs)⟩)
    · cases hv)
end
end
end
def S (l : List Nat) : Str := ⟨l.toArray⟩
theorem S_toList (l : List Nat) : (S l).cps.toList = l := by simp [S]
theorem S_len (l : List Nat) : (S l).length = l.length := by simp [S, Str.length]
theorem S_eta (y : Str) : y = S y.cps.toList := by cases y; simp [S]
theorem S_inj {a b : List Nat} (h : S a = S b) : a = b := by rw [← S_toList a, h, S_toList]
theorem S_app (a b : List Nat) : S a ++ S b = S (a ++ b) := by
  show Str.append (S a) (S b) = _
  simp [Str.append, S]
theorem S_ne_nil {l : List Nat} (h : l ≠ []) : S l ≠ Str.ofString "" := fun e => h (by
  have : S l = S [] := e.trans (by decide)
  exact S_inj this)
theorem clip_hi (lo : Option Int) (j len : Nat) (h : len ≤ j) : Builtin.Str.strSliceIndices lo (some (j : Int)) 1 len = Builtin.Str.strSliceIndices lo (some (len : Int)) 1 len := by
  have a : ¬ ((j : Int) < 0) := by omega
  have b : ¬ ((len : Int) < 0) := by omega
  have c : max (0 : Int) (min (j : Int) (len : Int)) = len := by omega
  have d : max (0 : Int) (min (len : Int) (len : Int)) = len := by omega
  simp only [Builtin.Str.strSliceIndices, a, b, if_false, c, d, gt_iff_lt, show (0 : Int) < 1 from by decide, if_true]
theorem clip_lo (hi : Option Int) (j len : Nat) (h : len ≤ j) : Builtin.Str.strSliceIndices (some (j : Int)) hi 1 len = Builtin.Str.strSliceIndices (some (len : Int)) hi 1 len := by
  have a : ¬ ((j : Int) < 0) := by omega
  have b : ¬ ((len : Int) < 0) := by omega
  have c : max (0 : Int) (min (j : Int) (len : Int)) = len := by omega
  have d : max (0 : Int) (min (len : Int) (len : Int)) = len := by omega
  simp only [Builtin.Str.strSliceIndices, a, b, if_false, c, d, gt_iff_lt, show (0 : Int) < 1 from by decide, if_true]
theorem slice_hi (x : Str) (lo : Option Int) (j : Nat) (h : x.length ≤ j) : Txt.slice x lo (some (j : Int)) = Txt.slice x lo (some (x.length : Int)) := by
  unfold Txt.slice; rw [clip_hi lo j x.length h]
theorem slice_lo (x : Str) (hi : Option Int) (j : Nat) (h : x.length ≤ j) : Txt.slice x (some (j : Int)) hi = Txt.slice x (some (x.length : Int)) hi := by
  unfold Txt.slice; rw [clip_lo hi j x.length h]
theorem take_S (l : List Nat) (n : Nat) : Txt.slice (S l) none (some (n : Int)) = S (l.take n) := by
  have key : ∀ k : Nat, k ≤ l.length → Txt.slice (S l) none (some (k : Int)) = S (l.take k) := fun k hk => by
    have := StrLaws.sliceText_to (x := S l) (j := (k : Int)) ⟨by omega, by rw [S_toList]; omega⟩
    rw [S_toList] at this
    refine Eq.trans this ?_
    simp [S]
  by_cases h : n ≤ l.length
  · exact key n h
  · rw [slice_hi _ _ n (by rw [S_len]; omega), S_len, key _ (Nat.le_refl _), List.take_length, List.take_of_length_le (by omega)]
theorem drop_S (l : List Nat) (n : Nat) : Txt.slice (S l) (some (n : Int)) none = S (l.drop n) := by
  have key : ∀ k : Nat, k ≤ l.length → Txt.slice (S l) (some (k : Int)) none = S (l.drop k) := fun k hk => by
    have := StrLaws.sliceText_from (x := S l) (i := (k : Int)) ⟨by omega, by rw [S_toList]; omega⟩
    rw [S_toList] at this
    refine Eq.trans this ?_
    have e : ((l.length : Int) - (k : Int)).toNat = l.length - k := by omega
    rw [e, Int.toNat_natCast, List.take_of_length_le (by simp)]
    rfl
  by_cases h : n ≤ l.length
  · exact key n h
  · rw [slice_lo _ _ n (by rw [S_len]; omega), S_len, key _ (Nat.le_refl _), List.drop_length, List.drop_of_length_le (by omega)]
theorem one_S (l : List Nat) (k : Nat) : Txt.slice (S l) (some (k : Int)) (some ((k : Int) + 1)) = S ((l.drop k).take 1) := by
  by_cases h : k + 1 ≤ l.length
  · have := StrLaws.sliceText_plain (x := S l) (i := (k : Int)) (j := (k : Int) + 1) ⟨by omega, by omega, by rw [S_toList]; omega⟩
    rw [S_toList] at this
    refine Eq.trans this ?_
    have e : ((k : Int) + 1 - (k : Int)).toNat = 1 := by omega
    rw [e, Int.toNat_natCast]
    rfl
  · have hk : l.length ≤ k := by omega
    rw [show ((k : Int) + 1) = ((k + 1 : Nat) : Int) from by omega, slice_hi _ _ (k + 1) (by rw [S_len]; omega), slice_lo _ _ k (by rw [S_len]; omega), S_len]
    have := StrLaws.sliceText_plain (x := S l) (i := (l.length : Int)) (j := (l.length : Int)) ⟨by omega, by omega, by rw [S_toList]; omega⟩
    rw [S_toList] at this
    refine Eq.trans this ?_
    rw [Int.toNat_natCast, List.drop_of_length_le (Nat.le_refl _), List.drop_of_length_le hk]
    simp [S]
theorem alnum_S (l : List Nat) (k : Nat) : alnumAt (S l) (k : Int) = ((l.drop k).head?.map Unicode.isAlnum).getD false := by
  unfold alnumAt
  rw [one_S]
  cases h : l.drop k with
  | nil => simp [Txt.isalnum, S, Str.length]
  | cons c t => simp [Txt.isalnum, S, Str.length]
def RT (l : List Nat) (ts : List Dat) : Prop := ReadsTo (S l) ts
def inL (l : List Nat) : Bool := inD (S l)
theorem piecesS (l : List Nat) : piecesL (S l) = ([l.take 3, l.take 2, l.take 1].filter inL).map S := by
  unfold piecesL
  rw [show (3 : Int) = ((3 : Nat) : Int) from rfl, show (2 : Int) = ((2 : Nat) : Int) from rfl, show (1 : Int) = ((1 : Nat) : Int) from rfl, take_S, take_S, take_S]
  show List.filter inD (List.map S [l.take 3, l.take 2, l.take 1]) = _
  rw [List.filter_map]; rfl
theorem rt_op {l p : List Nat} {q : List (List Nat)} {ts : List Dat} {n : Int} (h : [l.take 3, l.take 2, l.take 1].filter inL = p :: q) (hl : l ≠ []) (hv : valD (S p) = n) (hr : RT (l.drop p.length) ts) : RT l (Dat.int n :: ts) := by
  subst hv
  refine ReadsTo.op (ps := q.map S) (S_ne_nil hl) (by rw [piecesS, h]; rfl) ?_
  rw [S_len, drop_S]
  exact hr
theorem inL3 (a b c : Nat) : inL [a, b, c] = tabD.any (fun p => decide (S [a, b, c] = p.1)) := rfl
theorem inS {l m : List Nat} : (S l = (⟨m.toArray⟩ : Str)) ↔ l = m := ⟨fun h => S_inj h, fun h => by rw [h]; rfl⟩
-- a dot run
theorem dot3 (l : List Nat) : [(46 :: 46 :: 46 :: l).take 3, (46 :: 46 :: 46 :: l).take 2, (46 :: 46 :: 46 :: l).take 1].filter inL = [[46, 46, 46], [46]] := by
  simp only [List.take_succ_cons, List.take_zero]; decide
theorem inL_false {l : List Nat} (h : ∀ p ∈ tabD, p.1.cps.toList ≠ l) : inL l = false := by
  unfold inL
  rw [inD_eq, List.any_eq_false]
  intro p hp e
  have e : S l = p.1 := of_decide_eq_true e
  exact h p hp (by rw [← e, S_toList])
theorem k46 : ∀ p ∈ tabD, p.1.cps.toList.head? = some 46 → p.1.cps.toList = [46] ∨ p.1.cps.toList = [46, 46, 46] := by decide +kernel
theorem k61 : ∀ p ∈ tabD, p.1.cps.toList.head? = some 61 → p.1.cps.toList = [61] ∨ p.1.cps.toList = [61, 61] := by decide +kernel
theorem k64 : ∀ p ∈ tabD, p.1.cps.toList.head? = some 64 → p.1.cps.toList = [64] ∨ p.1.cps.toList = [64, 61] := by decide +kernel
theorem k45 : ∀ p ∈ tabD, p.1.cps.toList.head? = some 45 → p.1.cps.toList = [45] ∨ p.1.cps.toList = [45, 61] ∨ p.1.cps.toList = [45, 62] := by decide +kernel
theorem dot_a (a : Nat) : inL [46, a] = false := inL_false fun p hp e => by
  rcases k46 p hp (by rw [e]; rfl) with q | q <;> (rw [e] at q; simp at q)
theorem dot_ab (a b : Nat) (h : ¬ (a = 46 ∧ b = 46)) : inL [46, a, b] = false := inL_false fun p hp e => by
  rcases k46 p hp (by rw [e]; rfl) with q | q <;> (rw [e] at q; simp at q)
  exact h q
theorem eq_ab (a b : Nat) : inL [61, a, b] = false := inL_false fun p hp e => by
  rcases k61 p hp (by rw [e]; rfl) with q | q <;> (rw [e] at q; simp at q)
theorem eq_a (a : Nat) (h : a ≠ 61) : inL [61, a] = false := inL_false fun p hp e => by
  rcases k61 p hp (by rw [e]; rfl) with q | q <;> (rw [e] at q; simp at q)
  exact h q
theorem at_ab (a b : Nat) : inL [64, a, b] = false := inL_false fun p hp e => by
  rcases k64 p hp (by rw [e]; rfl) with q | q <;> (rw [e] at q; simp at q)
theorem at_a (a : Nat) (h : a ≠ 61) : inL [64, a] = false := inL_false fun p hp e => by
  rcases k64 p hp (by rw [e]; rfl) with q | q <;> (rw [e] at q; simp at q)
  exact h q
theorem dash_ab (a b : Nat) : inL [45, a, b] = false := inL_false fun p hp e => by
  rcases k45 p hp (by rw [e]; rfl) with q | q | q <;> (rw [e] at q; simp at q)
theorem dash_a (a : Nat) (h : a ≠ 61) (h2 : a ≠ 62) : inL [45, a] = false := inL_false fun p hp e => by
  rcases k45 p hp (by rw [e]; rfl) with q | q | q <;> (rw [e] at q; simp at q)
  · exact h q
  · exact h2 q
def heads : List Nat := [67, 101, 85, 56, 73, 49]
theorem word_any {c : Nat} (h : c ∈ heads) (t : List Nat) : inL (c :: t) = false := by
  unfold inL
  rw [inD_eq, List.any_eq_false]
  intro p hp
  have key : ∀ p ∈ tabD, ∀ c ∈ heads, p.1.cps.toList.head? ≠ some c := by decide +kernel
  intro e
  have e : S (c :: t) = p.1 := of_decide_eq_true e
  exact key p hp c h (by rw [← e, S_toList]; rfl)
theorem word_1 {c : Nat} (h : c ∈ heads) : inL [c] = false := word_any h _
theorem word_2 {c : Nat} (h : c ∈ heads) (a : Nat) : inL [c, a] = false := word_any h _
theorem word_3 {c : Nat} (h : c ∈ heads) (a b : Nat) : inL [c, a, b] = false := word_any h _
theorem dot1 (l : List Nat) (h : ∀ t, l ≠ 46 :: 46 :: t) : ∃ q, [(46 :: l).take 3, (46 :: l).take 2, (46 :: l).take 1].filter inL = [46] :: q := by
  have h1 : inL [46] = true := by decide
  rcases l with _ | ⟨a, _ | ⟨b, t⟩⟩
  · exact ⟨[[46], [46]], by simp [h1]⟩
  · exact ⟨[], by simp [h1, dot_a]⟩
  · exact ⟨[], by simp [h1, dot_a, dot_ab a b (fun e => h t (by rw [e.1, e.2]))]⟩
theorem eq2 (l : List Nat) : ∃ q, [(61 :: 61 :: l).take 3, (61 :: 61 :: l).take 2, (61 :: 61 :: l).take 1].filter inL = [61, 61] :: q := by
  have h1 : inL [61] = true := by decide
  have h2 : inL [61, 61] = true := by decide
  rcases l with _ | ⟨b, t⟩
  · exact ⟨[[61, 61], [61]], by simp [h1, h2]⟩
  · exact ⟨[[61]], by simp [h1, h2, eq_ab]⟩
theorem eq1 (l : List Nat) (h : l.head? ≠ some 61) : ∃ q, [(61 :: l).take 3, (61 :: l).take 2, (61 :: l).take 1].filter inL = [61] :: q := by
  have h1 : inL [61] = true := by decide
  rcases l with _ | ⟨a, _ | ⟨b, t⟩⟩
  · exact ⟨[[61], [61]], by simp [h1]⟩
  · exact ⟨[], by simp [h1, eq_a a (fun e => h (by rw [e]; rfl))]⟩
  · exact ⟨[], by simp [h1, eq_ab, eq_a a (fun e => h (by rw [e]; rfl))]⟩
theorem at1 (l : List Nat) (h : l.head? ≠ some 61) : ∃ q, [(64 :: l).take 3, (64 :: l).take 2, (64 :: l).take 1].filter inL = [64] :: q := by
  have h1 : inL [64] = true := by decide
  rcases l with _ | ⟨a, _ | ⟨b, t⟩⟩
  · exact ⟨[[64], [64]], by simp [h1]⟩
  · exact ⟨[], by simp [h1, at_a a (fun e => h (by rw [e]; rfl))]⟩
  · exact ⟨[], by simp [h1, at_ab, at_a a (fun e => h (by rw [e]; rfl))]⟩
theorem at2 (l : List Nat) : ∃ q, [(64 :: 61 :: l).take 3, (64 :: 61 :: l).take 2, (64 :: 61 :: l).take 1].filter inL = [64, 61] :: q := by
  have h1 : inL [64] = true := by decide
  have h2 : inL [64, 61] = true := by decide
  rcases l with _ | ⟨b, t⟩
  · exact ⟨[[64, 61], [64]], by simp [h1, h2]⟩
  · exact ⟨[[64]], by simp [h1, h2, at_ab]⟩
theorem dash1 (l : List Nat) (h : l.head? ≠ some 61) (h' : l.head? ≠ some 62) : ∃ q, [(45 :: l).take 3, (45 :: l).take 2, (45 :: l).take 1].filter inL = [45] :: q := by
  have h1 : inL [45] = true := by decide
  rcases l with _ | ⟨a, _ | ⟨b, t⟩⟩
  · exact ⟨[[45], [45]], by simp [h1]⟩
  · exact ⟨[], by simp [h1, dash_a a (fun e => h (by rw [e]; rfl)) (fun e => h' (by rw [e]; rfl))]⟩
  · exact ⟨[], by simp [h1, dash_ab, dash_a a (fun e => h (by rw [e]; rfl)) (fun e => h' (by rw [e]; rfl))]⟩
theorem word0 {c : Nat} (hc : c ∈ heads) (l : List Nat) : [(c :: l).take 3, (c :: l).take 2, (c :: l).take 1].filter inL = [] := by
  rcases l with _ | ⟨a, _ | ⟨b, t⟩⟩
  · simp [word_1 hc]
  · simp [word_1 hc, word_2 hc]
  · simp [word_1 hc, word_2 hc, word_3 hc]
theorem rt_dots : ∀ (k : Nat) {l : List Nat} {ts : List Dat}, l.head? ≠ some 46 → RT l ts → RT (List.replicate k 46 ++ l) (List.replicate (k / 3) (Dat.int 52) ++ List.replicate (k % 3) (Dat.int 23) ++ ts)
  | 0, l, ts, _, h => by simpa using h
  | 1, l, ts, hh, h => by
    obtain ⟨q, hq⟩ := dot1 l (fun t e => hh (by rw [e]; rfl))
    exact rt_op hq (by simp) (by decide) h
  | 2, l, ts, hh, h => by
    obtain ⟨q, hq⟩ := dot1 l (fun t e => hh (by rw [e]; rfl))
    obtain ⟨q2, hq2⟩ := dot1 (46 :: l) (fun t e => hh (by rw [List.cons.inj e |>.2]; rfl))
    exact rt_op hq2 (by simp) (by decide) (rt_op hq (by simp) (by decide) h)
  | k + 3, l, ts, hh, h => by
    have ih := rt_dots k hh h
    have e1 : (k + 3) / 3 = k / 3 + 1 := by omega
    have e2 : (k + 3) % 3 = k % 3 := by omega
    rw [e1, e2]
    show RT (46 :: 46 :: 46 :: (List.replicate k 46 ++ l)) (Dat.int 52 :: (List.replicate (k / 3) (Dat.int 52) ++ List.replicate (k % 3) (Dat.int 23) ++ ts))
    exact rt_op (dot3 _) (by simp) (by decide) ih
theorem rt_eqs : ∀ (k : Nat) {l : List Nat} {ts : List Dat}, l.head? ≠ some 61 → RT l ts → RT (List.replicate k 61 ++ l) (List.replicate (k / 2) (Dat.int 27) ++ List.replicate (k % 2) (Dat.int 22) ++ ts)
  | 0, l, ts, _, h => by simpa using h
  | 1, l, ts, hh, h => by
    obtain ⟨q, hq⟩ := eq1 l hh
    exact rt_op hq (by simp) (by decide) h
  | k + 2, l, ts, hh, h => by
    have ih := rt_eqs k hh h
    have e1 : (k + 2) / 2 = k / 2 + 1 := by omega
    have e2 : (k + 2) % 2 = k % 2 := by omega
    rw [e1, e2]
    show RT (61 :: 61 :: (List.replicate k 61 ++ l)) (Dat.int 27 :: (List.replicate (k / 2) (Dat.int 27) ++ List.replicate (k % 2) (Dat.int 22) ++ ts))
    obtain ⟨q, hq⟩ := eq2 (List.replicate k 61 ++ l)
    exact rt_op hq (by simp) (by decide) ih
theorem rt_ats : ∀ (k : Nat) {l : List Nat} {ts : List Dat}, l.head? ≠ some 61 → RT l ts → RT (List.replicate k 64 ++ l) (List.replicate k (Dat.int 49) ++ ts)
  | 0, l, ts, _, h => by simpa using h
  | k + 1, l, ts, hh, h => by
    have ih := rt_ats k hh h
    obtain ⟨q, hq⟩ := at1 (List.replicate k 64 ++ l) (by cases k with | zero => simpa using hh | succ k => simp [List.replicate_succ])
    exact rt_op hq (by simp) (by decide) ih
theorem rt_ateq {l : List Nat} {ts : List Dat} (h : RT l ts) : RT (64 :: 61 :: l) (Dat.int 50 :: ts) := by
  obtain ⟨q, hq⟩ := at2 l
  exact rt_op hq (by simp) (by decide) h
theorem rt_dash {l : List Nat} {ts : List Dat} (h1 : l.head? ≠ some 61) (h2 : l.head? ≠ some 62) (h : RT l ts) : RT (45 :: l) (Dat.int 15 :: ts) := by
  obtain ⟨q, hq⟩ := dash1 l h1 h2
  exact rt_op hq (by simp) (by decide) h
theorem rt_word {w l : List Nat} {ts : List Dat} {c : Nat} {w' : List Nat} (hw : w = c :: w') (hc : c ∈ heads) (hal : w.all Unicode.isAlnum = true) (hlen : w.length ≤ 1000) (hl : (l.head?.map Unicode.isAlnum).getD false = false) (h : RT l ts) : RT (w ++ l) (Dat.str (S w) :: ts) := by
  have hne : w ++ l ≠ [] := by rw [hw]; simp
  have hpos : 1 ≤ w.length := by rw [hw]; simp
  have key := ReadsTo.word (y := S (w ++ l)) (n := (w.length : Int)) (ts := ts) (S_ne_nil hne) (by rw [piecesS, hw, List.cons_append, word0 hc]; rfl) (by omega) (by omega) (fun k h1 h2 => ?_) ?_ ?_
  · rw [take_S, List.take_left] at key
    exact key
  · obtain ⟨j, rfl⟩ := Int.eq_ofNat_of_zero_le (show (0 : Int) ≤ k by omega)
    have hj : j < w.length := by omega
    rw [alnum_S, List.head?_drop, List.getElem?_append_left hj, List.getElem?_eq_getElem hj]
    exact List.all_eq_true.mp hal _ (List.getElem_mem hj)
  · rw [alnum_S, List.drop_left]
    exact hl
  · rw [drop_S, List.drop_left]
    exact h
abbrev sDot : Str := Str.ofString "."
abbrev sEq : Str := Str.ofString "="
abbrev sAt : Str := Str.ofString "@"
abbrev sDash : Str := Str.ofString "-"
def isW (s : Str) : Prop := s = Str.ofString "C" ∨ s = Str.ofString "euro" ∨ s = Str.ofString "UTF" ∨ s = Str.ofString "8" ∨ s = Str.ofString "ISO8859" ∨ s = Str.ofString "15"
def sgn (s : Str) : Prop := s = sDot ∨ s = sEq ∨ s = sAt
def okRun (r : Run) : Prop := (sgn r.1 ∧ 1 ≤ r.2) ∨ (r.2 = 1 ∧ (r.1 = sDash ∨ isW r.1))
def joint (a b : Str) : Prop := a ≠ b ∧ ¬ (isW a ∧ isW b) ∧ (a = sDash → isW b)
def WF : List Run → Prop
  | [] => True
  | [r] => okRun r ∧ r.1 ≠ sDash
  | r :: r' :: rs => okRun r ∧ joint r.1 r'.1 ∧ WF (r' :: rs)
def cnt (r : Run) : List Nat := (List.replicate r.2.toNat r.1.cps.toList).flatten
def txt (rs : List Run) : List Nat := rs.flatMap cnt
theorem txt_cons (r : Run) (rs : List Run) : txt (r :: rs) = cnt r ++ txt rs := by simp [txt]
theorem txt_app (a b : List Run) : txt (a ++ b) = txt a ++ txt b := by simp [txt]
theorem flat_one (c k : Nat) : (List.replicate k [c]).flatten = List.replicate k c := by simp
theorem cnt_one (c : Nat) (s : Str) (k : Nat) (h : s.cps.toList = [c]) : cnt (s, (k : Int)) = List.replicate k c := by
  unfold cnt; rw [h]; simp
theorem cnt_w (s : Str) : cnt (s, 1) = s.cps.toList := by simp [cnt]
theorem WF.tail {r : Run} : ∀ {rs : List Run}, WF (r :: rs) → WF rs
  | [], _ => trivial
  | _ :: _, h => h.2.2
theorem WF.head {r : Run} : ∀ {rs : List Run}, WF (r :: rs) → okRun r
  | [], h => h.1
  | _ :: _, h => h.1
theorem isW_head {s : Str} (h : isW s) : ∃ c l, s.cps.toList = c :: l ∧ c ∈ heads ∧ s.cps.toList.all Unicode.isAlnum = true ∧ s.cps.toList.length ≤ 10 := by
  rcases h with rfl | rfl | rfl | rfl | rfl | rfl
  · exact ⟨67, [], by decide +kernel, by decide, by decide +kernel, by decide +kernel⟩
  · exact ⟨101, [117, 114, 111], by decide +kernel, by decide, by decide +kernel, by decide +kernel⟩
  · exact ⟨85, [84, 70], by decide +kernel, by decide, by decide +kernel, by decide +kernel⟩
  · exact ⟨56, [], by decide +kernel, by decide, by decide +kernel, by decide +kernel⟩
  · exact ⟨73, [83, 79, 56, 56, 53, 57], by decide +kernel, by decide, by decide +kernel, by decide +kernel⟩
  · exact ⟨49, [53], by decide +kernel, by decide, by decide +kernel, by decide +kernel⟩
theorem okRun_head {r : Run} (h : okRun r) : ∃ c l, cnt r = c :: l ∧ ((r.1 = sDot ∧ c = 46) ∨ (r.1 = sEq ∧ c = 61) ∨ (r.1 = sAt ∧ c = 64) ∨ (r.1 = sDash ∧ c = 45) ∨ (isW r.1 ∧ c ∈ heads)) := by
  obtain ⟨s, k⟩ := r
  rcases h with ⟨hs, hk⟩ | ⟨hk, hs⟩
  · obtain ⟨n, rfl⟩ := Int.eq_ofNat_of_zero_le (show (0 : Int) ≤ k by simp only at hk; omega)
    obtain ⟨m, rfl⟩ : ∃ m, n = m + 1 := ⟨n - 1, by simp only at hk; omega⟩
    rcases hs with rfl | rfl | rfl
    · exact ⟨46, _, by rw [cnt_one 46 _ _ (by decide +kernel)]; rfl, .inl ⟨rfl, rfl⟩⟩
    · exact ⟨61, _, by rw [cnt_one 61 _ _ (by decide +kernel)]; rfl, .inr (.inl ⟨rfl, rfl⟩)⟩
    · exact ⟨64, _, by rw [cnt_one 64 _ _ (by decide +kernel)]; rfl, .inr (.inr (.inl ⟨rfl, rfl⟩))⟩
  · simp only at hk hs
    subst hk
    rcases hs with rfl | hs
    · exact ⟨45, [], by rw [cnt_w]; decide +kernel, .inr (.inr (.inr (.inl ⟨rfl, rfl⟩)))⟩
    · obtain ⟨c, l, h1, h2, _⟩ := isW_head hs
      exact ⟨c, l, by rw [cnt_w]; exact h1, .inr (.inr (.inr (.inr ⟨hs, h2⟩)))⟩
-- what the text behind a run begins with
theorem next_head {rs : List Run} (h : WF rs) : (txt rs).head? = none ∨ ∃ r rs', rs = r :: rs' ∧ ∃ c, (txt rs).head? = some c ∧ ((r.1 = sDot ∧ c = 46) ∨ (r.1 = sEq ∧ c = 61) ∨ (r.1 = sAt ∧ c = 64) ∨ (r.1 = sDash ∧ c = 45) ∨ (isW r.1 ∧ c ∈ heads)) := by
  cases rs with
  | nil => exact .inl rfl
  | cons r rs' =>
    obtain ⟨c, l, h1, h2⟩ := okRun_head h.head
    exact .inr ⟨r, rs', rfl, c, by rw [txt_cons, h1]; rfl, h2⟩
theorem WF.joint {r r' : Run} {rs : List Run} (h : WF (r :: r' :: rs)) : joint r.1 r'.1 := h.2.1
theorem head_ne {r : Run} {rs : List Run} {s : Str} {c : Nat} (h : WF (r :: rs)) (hs : r.1 = s) (hc : (s = sDot ∧ c = 46) ∨ (s = sEq ∧ c = 61) ∨ (s = sAt ∧ c = 64)) : (txt rs).head? ≠ some c := by
  intro e
  rcases next_head h.tail with h0 | ⟨r', rs', rfl, c', h1, h2⟩
  · rw [h0] at e; cases e
  · have hc' : c' = c := Option.some.inj (h1.symm.trans e)
    subst hc'
    have hj := h.joint.1
    rw [hs] at hj
    rcases hc with ⟨rfl, rfl⟩ | ⟨rfl, rfl⟩ | ⟨rfl, rfl⟩ <;> rcases h2 with ⟨e1, e2⟩ | ⟨e1, e2⟩ | ⟨e1, e2⟩ | ⟨e1, e2⟩ | ⟨e1, e2⟩ <;> first | exact hj e1.symm | exact absurd e2 (by decide)
theorem step_dot (acc : List Dat) (ah : Str) (k : Int) : toldStep (acc, ah) (sDot, k) = (acc ++ intsD 52 (k.fdiv 3) ++ intsD 23 (k.fmod 3), sDot) := by
  unfold toldStep; rw [if_pos (by dsimp only; decide)]
theorem step_eq (acc : List Dat) (ah : Str) (k : Int) (h : ah ≠ sAt) : toldStep (acc, ah) (sEq, k) = (acc ++ intsD 27 (k.fdiv 2) ++ intsD 22 (k.fmod 2), sEq) := by
  unfold toldStep; rw [if_neg (by dsimp only; decide), if_pos (by dsimp only; decide), if_neg (by simpa using h)]
theorem step_ateq (acc : List Dat) (k : Int) : toldStep (acc, sAt) (sEq, k) = (acc.dropLast ++ [Dat.int 50] ++ intsD 27 ((k - 1).fdiv 2) ++ intsD 22 ((k - 1).fmod 2), sEq) := by
  unfold toldStep; rw [if_neg (by dsimp only; decide), if_pos (by dsimp only; decide), if_pos (by dsimp only; decide)]
theorem step_at (acc : List Dat) (ah : Str) (k : Int) : toldStep (acc, ah) (sAt, k) = (acc ++ intsD 49 k, sAt) := by
  unfold toldStep; rw [if_neg (by dsimp only; decide), if_neg (by dsimp only; decide), if_pos (by dsimp only; decide)]
theorem step_dash (acc : List Dat) (ah : Str) (k : Int) : toldStep (acc, ah) (sDash, k) = (acc ++ [Dat.int 15], sDash) := by
  unfold toldStep; rw [if_neg (by dsimp only; decide), if_neg (by dsimp only; decide), if_neg (by dsimp only; decide), if_pos (by dsimp only; decide)]
theorem step_w (acc : List Dat) (ah : Str) (k : Int) {s : Str} (h : isW s) : toldStep (acc, ah) (s, k) = (acc ++ [Dat.str s], s) := by
  rcases h with rfl | rfl | rfl | rfl | rfl | rfl <;> (unfold toldStep; rw [if_neg (by dsimp only; decide), if_neg (by dsimp only; decide), if_neg (by dsimp only; decide), if_neg (by dsimp only; decide)])
theorem ints_div (n : Int) (k d : Nat) : intsD n ((k : Int).fdiv (d : Int)) = List.replicate (k / d) (Dat.int n) := by
  unfold intsD
  rw [Int.fdiv_eq_ediv_of_nonneg _ (by omega), ← Int.natCast_ediv, Int.toNat_natCast]
theorem ints_mod (n : Int) (k d : Nat) : intsD n ((k : Int).fmod (d : Int)) = List.replicate (k % d) (Dat.int n) := by
  unfold intsD
  rw [Int.fmod_eq_emod_of_nonneg _ (by omega), ← Int.natCast_emod, Int.toNat_natCast]
theorem okRun.nat {r : Run} (h : okRun r) : ∃ n : Nat, r.2 = ((n + 1 : Nat) : Int) := by
  rcases h with ⟨_, hk⟩ | ⟨hk, _⟩
  · exact ⟨(r.2 - 1).toNat, by omega⟩
  · exact ⟨0, by omega⟩
theorem okRun.one {r : Run} (h : okRun r) (h1 : r.1 = sDash ∨ isW r.1) : r.2 = 1 := by
  rcases h with ⟨hs, hk⟩ | ⟨hk, _⟩
  · exfalso
    unfold sgn isW at *
    rcases hs with e | e | e <;> rw [e] at h1 <;> revert h1 <;> decide
  · exact hk
theorem reads : ∀ (n : Nat) (rs : List Run), rs.length ≤ n → WF rs → ∀ acc ah, (ah = sAt → ∀ r rs', rs = r :: rs' → r.1 ≠ sEq) → ∃ ts, (rs.foldl toldStep (acc, ah)).1 = acc ++ ts ∧ RT (txt rs) ts
  | _, [], _, _, acc, ah, _ => ⟨[], by simp, ReadsTo.nil⟩
  | 0, _ :: _, hn, _, _, _, _ => absurd hn (by simp)
  | n + 1, (s, k) :: rs, hn, hw, acc, ah, hah => by
    have hn' : rs.length ≤ n := by simpa using hn
    have IH := reads n rs hn' hw.tail
    obtain ⟨j, hj⟩ := hw.head.nat
    simp only at hj
    obtain ⟨c, l, hc, hcase⟩ := okRun_head hw.head
    rcases hcase with ⟨e, _⟩ | ⟨e, _⟩ | ⟨e, _⟩ | ⟨e, _⟩ | ⟨e, hch⟩
    · simp only at e
      subst e hj
      obtain ⟨ts, h1, h2⟩ := IH (acc ++ intsD 52 (((j + 1 : Nat) : Int).fdiv 3) ++ intsD 23 (((j + 1 : Nat) : Int).fmod 3)) sDot (fun e => absurd e (by decide))
      refine ⟨List.replicate ((j + 1) / 3) (Dat.int 52) ++ List.replicate ((j + 1) % 3) (Dat.int 23) ++ ts, ?_, ?_⟩
      · rw [List.foldl_cons, step_dot, h1]
        have a : intsD 52 (((j + 1 : Nat) : Int).fdiv 3) = _ := ints_div 52 (j + 1) 3
        have b : intsD 23 (((j + 1 : Nat) : Int).fmod 3) = _ := ints_mod 23 (j + 1) 3
        rw [a, b]; simp
      · rw [txt_cons, cnt_one 46 _ _ (by decide +kernel)]
        exact rt_dots (j + 1) (head_ne hw rfl (.inl ⟨rfl, rfl⟩)) h2
    · simp only at e
      subst e hj
      obtain ⟨ts, h1, h2⟩ := IH (acc ++ intsD 27 (((j + 1 : Nat) : Int).fdiv 2) ++ intsD 22 (((j + 1 : Nat) : Int).fmod 2)) sEq (fun e => absurd e (by decide))
      refine ⟨List.replicate ((j + 1) / 2) (Dat.int 27) ++ List.replicate ((j + 1) % 2) (Dat.int 22) ++ ts, ?_, ?_⟩
      · rw [List.foldl_cons, step_eq _ _ _ (fun e => hah e _ _ rfl rfl), h1]
        have a : intsD 27 (((j + 1 : Nat) : Int).fdiv 2) = _ := ints_div 27 (j + 1) 2
        have b : intsD 22 (((j + 1 : Nat) : Int).fmod 2) = _ := ints_mod 22 (j + 1) 2
        rw [a, b]; simp
      · rw [txt_cons, cnt_one 61 _ _ (by decide +kernel)]
        exact rt_eqs (j + 1) (head_ne hw rfl (.inr (.inl ⟨rfl, rfl⟩))) h2
    · simp only at e
      subst e hj
      by_cases hq : ∃ c rs', rs = (sEq, c) :: rs'
      · obtain ⟨c', rs', rfl⟩ := hq
        obtain ⟨j', hj'⟩ := hw.tail.head.nat
        simp only at hj'
        subst hj'
        have IH2 := reads n rs' (by simp at hn'; omega) hw.tail.tail
        obtain ⟨ts, h1, h2⟩ := IH2 (acc ++ List.replicate j (Dat.int 49) ++ [Dat.int 50] ++ intsD 27 ((j' : Int).fdiv 2) ++ intsD 22 ((j' : Int).fmod 2)) sEq (fun e => absurd e (by decide))
        refine ⟨List.replicate j (Dat.int 49) ++ (Dat.int 50 :: (List.replicate (j' / 2) (Dat.int 27) ++ List.replicate (j' % 2) (Dat.int 22) ++ ts)), ?_, ?_⟩
        · rw [List.foldl_cons, List.foldl_cons, step_at, step_ateq]
          have e1 : (acc ++ intsD 49 ((j + 1 : Nat) : Int)).dropLast = acc ++ List.replicate j (Dat.int 49) := by
            have : intsD 49 ((j + 1 : Nat) : Int) = List.replicate j (Dat.int 49) ++ [Dat.int 49] := by
              unfold intsD; rw [Int.toNat_natCast, List.replicate_succ']
            rw [this, ← List.append_assoc, List.dropLast_concat]
          have e2 : (((j' + 1 : Nat) : Int) - 1) = (j' : Int) := by omega
          rw [e1, e2, h1]
          have a : intsD 27 ((j' : Int).fdiv 2) = _ := ints_div 27 j' 2
          have b : intsD 22 ((j' : Int).fmod 2) = _ := ints_mod 22 j' 2
          rw [a, b]; simp
        · rw [txt_cons, txt_cons, cnt_one 64 _ _ (by decide +kernel), cnt_one 61 _ _ (by decide +kernel), List.replicate_succ', List.append_assoc]
          refine rt_ats j (by simp) ?_
          show RT (64 :: 61 :: (List.replicate j' 61 ++ txt rs')) _
          exact rt_ateq (rt_eqs j' (head_ne hw.tail rfl (.inr (.inl ⟨rfl, rfl⟩))) h2)
      · have hno : ∀ r rs', rs = r :: rs' → r.1 ≠ sEq := fun r rs' e z => hq ⟨r.2, rs', by rw [e, ← z]⟩
        obtain ⟨ts, h1, h2⟩ := IH (acc ++ intsD 49 ((j + 1 : Nat) : Int)) sAt (fun _ => hno)
        refine ⟨List.replicate (j + 1) (Dat.int 49) ++ ts, ?_, ?_⟩
        · rw [List.foldl_cons, step_at, h1]
          unfold intsD; rw [Int.toNat_natCast]; simp
        · rw [txt_cons, cnt_one 64 _ _ (by decide +kernel)]
          refine rt_ats (j + 1) (fun e => ?_) h2
          rcases next_head hw.tail with h0 | ⟨r', rs', rfl, c', h3, h4⟩
          · rw [h0] at e; cases e
          · have hc' : c' = 61 := Option.some.inj (h3.symm.trans e)
            subst hc'
            rcases h4 with ⟨e1, e2⟩ | ⟨e1, e2⟩ | ⟨e1, e2⟩ | ⟨e1, e2⟩ | ⟨e1, e2⟩ <;> first | exact hno _ _ rfl e1 | exact absurd e2 (by decide)
    · simp only at e
      subst e
      have hk1 := hw.head.one (.inl rfl)
      simp only at hk1
      subst hk1
      obtain ⟨ts, h1, h2⟩ := IH (acc ++ [Dat.int 15]) sDash (fun e => absurd e (by decide))
      refine ⟨Dat.int 15 :: ts, ?_, ?_⟩
      · rw [List.foldl_cons, step_dash, h1]; simp
      · rw [txt_cons, cnt_w]
        have hd : (txt rs).head? ≠ some 61 ∧ (txt rs).head? ≠ some 62 := by
          cases rs with
          | nil => exact absurd rfl hw.2
          | cons r' rs' =>
            obtain ⟨c', l', h3, h4, _⟩ := isW_head (hw.joint.2.2 rfl)
            have hone := hw.tail.head.one (.inr (hw.joint.2.2 rfl))
            have : txt (r' :: rs') = c' :: (l' ++ txt rs') := by
              rw [txt_cons, show r' = (r'.1, (1 : Int)) from by rw [← hone], cnt_w, h3]; rfl
            rw [this]
            refine ⟨fun e => ?_, fun e => ?_⟩ <;> (have := Option.some.inj e; subst this; exact absurd h4 (by decide))
        exact rt_dash hd.1 hd.2 h2
    · simp only at e
      have hk1 := hw.head.one (.inr e)
      simp only at hk1
      subst hk1
      obtain ⟨ts, h1, h2⟩ := IH (acc ++ [Dat.str s]) s (fun e' => by
        exact absurd (e' ▸ e : isW sAt) (by unfold isW; decide))
      refine ⟨Dat.str s :: ts, ?_, ?_⟩
      · rw [List.foldl_cons, step_w _ _ _ e, h1]; simp
      · rw [txt_cons, cnt_w]
        obtain ⟨c', l', h3, h4, h5, h6⟩ := isW_head e
        have key := rt_word (l := txt rs) (ts := ts) h3 h4 h5 (by omega) ?_ h2
        · rw [← S_eta s] at key; exact key
        · rcases next_head hw.tail with h0 | ⟨r', rs', rfl, c'', h7, h8⟩
          · rw [h0]; rfl
          · rw [h7]
            have hnw := hw.joint.2.1
            rcases h8 with ⟨_, rfl⟩ | ⟨_, rfl⟩ | ⟨_, rfl⟩ | ⟨_, rfl⟩ | ⟨e1, _⟩
            · decide +kernel
            · decide +kernel
            · decide +kernel
            · decide +kernel
            · exact absurd ⟨e, e1⟩ hnw
theorem reads_told {rs : List Run} (h : WF rs) : ReadsTo (S (txt rs)) (toldL rs) := by
  obtain ⟨ts, h1, h2⟩ := reads rs.length rs (Nat.le_refl _) h [] (Str.ofString "") (fun e => absurd e (by decide))
  rw [List.nil_append] at h1
  unfold toldL
  rw [h1]; exact h2
theorem sgn_notW {s : Str} (h : sgn s) (h' : isW s) : False := by
  rcases h with rfl | rfl | rfl <;> exact absurd h' (by unfold isW; decide)
theorem sgn_notDash {s : Str} (h : sgn s) : s ≠ sDash := by
  rcases h with rfl | rfl | rfl <;> decide
theorem WF.pos : ∀ {rs : List Run}, WF rs → ∀ r ∈ rs, 1 ≤ r.2
  | r :: rs, h, r', hr => by
    rcases List.mem_cons.mp hr with rfl | hr
    · obtain ⟨n, hn⟩ := h.head.nat; omega
    · exact h.tail.pos r' hr
theorem WF.okall : ∀ {rs : List Run}, WF rs → ∀ r ∈ rs, okRun r
  | r :: rs, h, r', hr => by
    rcases List.mem_cons.mp hr with rfl | hr
    · exact h.head
    · exact h.tail.okall r' hr
theorem WF.last : ∀ {ls : List Run} {l : Run}, WF (ls ++ [l]) → okRun l ∧ l.1 ≠ sDash
  | [], _, h => h
  | [_], _, h => h.2.2
  | _ :: b :: ls, _, h => WF.last (ls := b :: ls) h.2.2
theorem wf_app : ∀ {ls : List Run} {l r : Run} {rs : List Run}, WF (ls ++ [l]) → WF (r :: rs) → joint l.1 r.1 → WF (ls ++ l :: r :: rs)
  | [], l, r, rs, h1, h2, hj => ⟨h1.1, hj, h2⟩
  | [a], l, r, rs, h1, h2, hj => ⟨h1.1, h1.2.1, h1.2.2.1, hj, h2⟩
  | a :: b :: ls, l, r, rs, h1, h2, hj => ⟨h1.1, h1.2.1, wf_app (ls := b :: ls) h1.2.2 h2 hj⟩
theorem wf_merge : ∀ {ls : List Run} {l r : Run} {rs : List Run}, WF (ls ++ [l]) → WF (r :: rs) → l.1 = r.1 → sgn l.1 → WF (ls ++ (l.1, l.2 + r.2) :: rs)
  | [], l, r, rs, h1, h2, he, hs => by
    have hl := h1.head.nat
    have hr := h2.head.nat
    obtain ⟨a, ha⟩ := hl
    obtain ⟨b, hb⟩ := hr
    have ok : okRun (l.1, l.2 + r.2) := .inl ⟨hs, by simp only; omega⟩
    cases rs with
    | nil => exact ⟨ok, sgn_notDash hs⟩
    | cons r' rs' => exact ⟨ok, by rw [show (l.1, l.2 + r.2).1 = r.1 from he]; exact h2.joint, h2.tail⟩
  | [a], l, r, rs, h1, h2, he, hs => ⟨h1.1, h1.2.1, wf_merge (ls := []) h1.2.2 h2 he hs⟩
  | a :: b :: ls, l, r, rs, h1, h2, he, hs => ⟨h1.1, h1.2.1, wf_merge (ls := b :: ls) h1.2.2 h2 he hs⟩
theorem wf_joined {L R : List Run} (h1 : WF L) (h2 : WF R) (h : ∀ ls l r rs, L = ls ++ [l] → R = r :: rs → sgn l.1 ∨ sgn r.1) : WF (joinedL L R) := by
  rcases List.eq_nil_or_concat L with rfl | ⟨ls, l, rfl⟩
  · simpa [joinedL] using h2
  rw [List.concat_eq_append] at *
  cases R with
  | nil => rw [joinedL_nil]; exact h1
  | cons r rs =>
    rw [joinedL_snoc]
    have hs := h ls l r rs rfl rfl
    split
    · rename_i e
      exact wf_merge h1 h2 e (by rcases hs with hs | hs; exact hs; rw [e]; exact hs)
    · rename_i e
      refine wf_app h1 h2 ⟨e, fun q => ?_, fun q => absurd q h1.last.2⟩
      rcases hs with hs | hs
      · exact sgn_notW hs q.1
      · exact sgn_notW hs q.2
theorem cnt_add (s : Str) {a b : Int} (ha : 0 ≤ a) (hb : 0 ≤ b) : cnt (s, a + b) = cnt (s, a) ++ cnt (s, b) := by
  unfold cnt
  rw [show (a + b).toNat = a.toNat + b.toNat from by omega, ← List.replicate_append_replicate, List.flatten_append]
theorem txt_joined {L R : List Run} (h1 : WF L) (h2 : WF R) : txt (joinedL L R) = txt L ++ txt R := by
  rcases List.eq_nil_or_concat L with rfl | ⟨ls, l, rfl⟩
  · simp [joinedL, txt]
  rw [List.concat_eq_append] at *
  cases R with
  | nil => rw [joinedL_nil]; simp [txt]
  | cons r rs =>
    rw [joinedL_snoc]
    split
    · rename_i e
      have p1 := h1.pos l (by simp)
      have p2 := h2.pos r (by simp)
      rw [txt_app, txt_cons, txt_app, txt_cons, txt_cons, cnt_add _ (by omega) (by omega), show cnt (l.1, r.2) = cnt r from by rw [e]]
      simp [txt]
    · simp [txt]
theorem last_sgn {L : List Run} {s : Str} (n : Int) : ∃ ls l, joinedL L [(s, n)] = ls ++ [l] ∧ l.1 = s := by
  rcases List.eq_nil_or_concat L with rfl | ⟨ls, l, rfl⟩
  · exact ⟨[], (s, n), by simp [joinedL], rfl⟩
  rw [List.concat_eq_append, joinedL_snoc]
  split
  · rename_i e; exact ⟨ls, _, rfl, e⟩
  · exact ⟨ls ++ [l], (s, n), by simp, rfl⟩
theorem wf_two {L R : List Run} {s : Str} (hs : sgn s) (h1 : WF L) (h2 : WF R) : WF (joinedL (joinedL L [(s, 1)]) R) := by
  have h0 : WF [(s, 1)] := ⟨.inl ⟨hs, by simp⟩, sgn_notDash hs⟩
  refine wf_joined (wf_joined h1 h0 fun ls l r rs _ e => .inr ?_) h2 fun ls l r rs e _ => .inl ?_
  · cases e; exact hs
  · obtain ⟨ls', l', e', hl⟩ := last_sgn (L := L) (s := s) 1
    rw [e'] at e
    have := (List.append_inj' e rfl).2
    rw [← (List.cons.inj this).1, hl]; exact hs
theorem txt_two {L R : List Run} {s : Str} (hs : sgn s) (h1 : WF L) (h2 : WF R) : txt (joinedL (joinedL L [(s, 1)]) R) = txt L ++ s.cps.toList ++ txt R := by
  have h0 : WF [(s, 1)] := ⟨.inl ⟨hs, by simp⟩, sgn_notDash hs⟩
  have h3 : WF (joinedL L [(s, 1)]) := wf_joined h1 h0 fun ls l r rs _ e => .inr (by cases e; exact hs)
  rw [txt_joined h3 h2, txt_joined h1 h0, txt_cons, cnt_w]
  simp [txt]
theorem txt_nil {rs : List Run} (h : WF rs) (e : txt rs = []) : rs = [] := by
  cases rs with
  | nil => rfl
  | cons r rs =>
    obtain ⟨c, l, h1, _⟩ := okRun_head h.head
    rw [txt_cons, h1] at e; simp at e
theorem rep_inj : ∀ {m n c : Nat} {A B : List Nat}, A.head? ≠ some c → B.head? ≠ some c → List.replicate m c ++ A = List.replicate n c ++ B → m = n ∧ A = B
  | 0, 0, _, _, _, _, _, e => ⟨rfl, by simpa using e⟩
  | 0, n + 1, c, A, B, hA, _, e => by
    exfalso; apply hA
    have : A = c :: (List.replicate n c ++ B) := by simpa [List.replicate_succ] using e
    rw [this]; rfl
  | m + 1, 0, c, A, B, _, hB, e => by
    exfalso; apply hB
    have : B = c :: (List.replicate m c ++ A) := by simpa [List.replicate_succ] using e.symm
    rw [this]; rfl
  | m + 1, n + 1, c, A, B, hA, hB, e => by
    have := rep_inj (m := m) (n := n) hA hB (by simpa [List.replicate_succ] using e)
    exact ⟨by omega, this.2⟩
theorem word_inj {s s' : Str} (h : isW s) (h' : isW s') (e : s.cps.toList.head? = s'.cps.toList.head?) : s = s' := by
  rcases h with rfl | rfl | rfl | rfl | rfl | rfl <;> rcases h' with rfl | rfl | rfl | rfl | rfl | rfl <;> first | rfl | exact absurd e (by decide +kernel)
theorem inj : ∀ {a b : List Run}, WF a → WF b → txt a = txt b → a = b
  | [], b, _, hb, e => (txt_nil hb (by rw [← e]; rfl)).symm
  | r :: a, b, ha, hb, e => by
    cases b with
    | nil => exact txt_nil ha (by rw [e]; rfl)
    | cons r' b =>
      obtain ⟨c, l, h1, h2⟩ := okRun_head ha.head
      obtain ⟨c', l', h1', h2'⟩ := okRun_head hb.head
      have hc : c = c' := by
        rw [txt_cons, txt_cons, h1, h1'] at e
        exact (List.cons.inj e).1
      subst hc
      have key : r.1 = r'.1 → (∃ d, r.1.cps.toList = [d] ∧ ((r.1 = sDot ∧ d = 46) ∨ (r.1 = sEq ∧ d = 61) ∨ (r.1 = sAt ∧ d = 64))) → r :: a = r' :: b := fun hr hd => by
        obtain ⟨d, hd, hs⟩ := hd
        obtain ⟨n, hn⟩ := ha.head.nat
        obtain ⟨n', hn'⟩ := hb.head.nat
        have x : cnt r = List.replicate (n + 1) d := by rw [← cnt_one d r.1 _ hd, ← hn]
        have x' : cnt r' = List.replicate (n' + 1) d := by rw [← cnt_one d r'.1 _ (hr ▸ hd), ← hn']
        rw [txt_cons, txt_cons, x, x'] at e
        have := rep_inj (head_ne ha rfl hs) (head_ne hb rfl (hr ▸ hs)) e
        have ih := inj ha.tail hb.tail this.2
        rw [ih, show r = r' from Prod.ext hr (by rw [hn, hn', this.1])]
      have key2 : r.1 = r'.1 → (r.1 = sDash ∨ isW r.1) → r :: a = r' :: b := fun hr hd => by
        have x := ha.head.one hd
        have x' := hb.head.one (hr ▸ hd)
        have hrr : r = r' := Prod.ext hr (by rw [x, x'])
        subst hrr
        rw [txt_cons, txt_cons] at e
        rw [inj ha.tail hb.tail (List.append_cancel_left e)]
      rcases h2 with ⟨e1, e2⟩ | ⟨e1, e2⟩ | ⟨e1, e2⟩ | ⟨e1, e2⟩ | ⟨e1, e2⟩ <;> rcases h2' with ⟨f1, f2⟩ | ⟨f1, f2⟩ | ⟨f1, f2⟩ | ⟨f1, f2⟩ | ⟨f1, f2⟩ <;> first
        | (exact absurd (e2.symm.trans f2) (by decide))
        | (subst e2; exact absurd f2 (by decide))
        | (subst f2; exact absurd e2 (by decide))
        | exact key (e1.trans f1.symm) ⟨46, by rw [e1]; decide +kernel, .inl ⟨e1, rfl⟩⟩
        | exact key (e1.trans f1.symm) ⟨61, by rw [e1]; decide +kernel, .inr (.inl ⟨e1, rfl⟩)⟩
        | exact key (e1.trans f1.symm) ⟨64, by rw [e1]; decide +kernel, .inr (.inr ⟨e1, rfl⟩)⟩
        | exact key2 (e1.trans f1.symm) (.inl e1)
        | (refine key2 (word_inj e1 f1 ?_) (.inr e1)
           have x := ha.head.one (.inr e1)
           have x' := hb.head.one (.inr f1)
           have y : cnt r = r.1.cps.toList := by rw [show r = (r.1, 1) from Prod.ext rfl x, cnt_w]
           have y' : cnt r' = r'.1.cps.toList := by rw [show r' = (r'.1, 1) from Prod.ext rfl x', cnt_w]
           rw [← y, ← y', h1, h1']; rfl)
theorem j_of {a b : Str} (h1 : a ≠ b) (h2 : ¬ isW a ∨ ¬ isW b) (h3 : a = sDash → isW b) : joint a b := ⟨h1, fun q => h2.elim (· q.1) (· q.2), h3⟩
theorem nW_dot : ¬ isW sDot := by unfold isW; decide
theorem nW_at : ¬ isW sAt := by unfold isW; decide
theorem nW_dash : ¬ isW sDash := by unfold isW; decide
theorem wf_iso : WF isoR :=
  ⟨.inl ⟨.inl rfl, by decide⟩, j_of (by decide) (.inl nW_dot) (fun e => absurd e (by decide)), .inr ⟨rfl, .inr (by unfold isW; decide)⟩, j_of (by decide) (.inr nW_dash) (fun e => absurd e (by decide)), .inr ⟨rfl, .inl rfl⟩, j_of (by decide) (.inl nW_dash) (fun _ => by unfold isW; decide), .inr ⟨rfl, .inr (by unfold isW; decide)⟩, by decide⟩
theorem wf_utf : WF utfR :=
  ⟨.inl ⟨.inl rfl, by decide⟩, j_of (by decide) (.inl nW_dot) (fun e => absurd e (by decide)), .inr ⟨rfl, .inr (by unfold isW; decide)⟩, j_of (by decide) (.inr nW_dash) (fun e => absurd e (by decide)), .inr ⟨rfl, .inl rfl⟩, j_of (by decide) (.inl nW_dash) (fun _ => by unfold isW; decide), .inr ⟨rfl, .inr (by unfold isW; decide)⟩, by decide⟩
theorem wf_euro : WF euroR := ⟨.inr ⟨rfl, .inr (by unfold isW; decide)⟩, by decide⟩
theorem txt_euro : txt euroR = (Str.ofString "euro").cps.toList := by decide +kernel
theorem txt_iso : txt isoR = 46 :: (Str.ofString "ISO8859-15").cps.toList := by decide +kernel
theorem txt_utf : txt utfR = 46 :: (Str.ofString "UTF-8").cps.toList := by decide +kernel
theorem wf_drop : ∀ (rs : List Run) (p : Run → Bool), WF rs → WF (rs.dropWhile p)
  | [], _, _ => trivial
  | r :: rs, p, h => by
    rw [List.dropWhile_cons]
    split
    · exact wf_drop rs p h.tail
    · exact h
theorem no_dot {s : Str} (h : s = sDash ∨ isW s) : ∀ c ∈ s.cps.toList, c ≠ 46 := by
  rcases h with rfl | rfl | rfl | rfl | rfl | rfl | rfl <;> decide +kernel
theorem no_dot2 {s : Str} (h : s = sEq ∨ s = sAt) : ∀ c ∈ s.cps.toList, c ≠ 46 := by
  rcases h with rfl | rfl <;> decide +kernel
theorem cnt_dot {r : Run} (h : okRun r) (hd : r.1 ≠ sDot) : ∀ c ∈ cnt r, c ≠ 46 := by
  intro c hc
  obtain ⟨n, hn⟩ := h.nat
  have hm : c ∈ r.1.cps.toList := by
    unfold cnt at hc
    obtain ⟨l, hl, hcl⟩ := List.mem_flatten.mp hc
    rw [(List.mem_replicate.mp hl).2] at hcl; exact hcl
  rcases h with ⟨hs, _⟩ | ⟨_, hs⟩
  · rcases hs with e | e | e
    · exact absurd e hd
    · exact no_dot2 (.inl e) c hm
    · exact no_dot2 (.inr e) c hm
  · exact no_dot hs c hm
theorem drop_txt : ∀ {rs : List Run}, WF rs → (txt rs).dropWhile (· != 46) = txt (fromDot rs)
  | [], _ => rfl
  | r :: rs, h => by
    by_cases hd : r.1 = sDot
    · obtain ⟨n, hn⟩ := h.head.nat
      have e : cnt r = 46 :: List.replicate n 46 := by rw [show r = (r.1, ((n + 1 : Nat) : Int)) from Prod.ext rfl hn, cnt_one 46 _ _ (by rw [hd]; decide +kernel)]; rfl
      have : fromDot (r :: rs) = r :: rs := by unfold fromDot; rw [List.dropWhile_cons, if_neg (by simp [hd])]
      rw [this, txt_cons, e]; simp
    · have hall := cnt_dot h.head hd
      have : fromDot (r :: rs) = fromDot rs := by unfold fromDot; rw [List.dropWhile_cons, if_pos (by simpa using hd)]
      rw [this, txt_cons, ← drop_txt h.tail, List.dropWhile_append_of_pos (by intro c hc; simpa using hall c hc)]
theorem peel {rs : List Run} {c : Nat} {t : List Nat} (h : WF rs) (e : txt rs = c :: t) : ∃ r rs', rs = r :: rs' ∧ txt rs = cnt r ++ txt rs' ∧ ((r.1 = sDot ∧ c = 46) ∨ (r.1 = sEq ∧ c = 61) ∨ (r.1 = sAt ∧ c = 64) ∨ (r.1 = sDash ∧ c = 45) ∨ (isW r.1 ∧ c ∈ heads ∧ r.1.cps.toList.head? = some c)) := by
  cases rs with
  | nil => cases e
  | cons r rs' =>
    obtain ⟨c', l, h1, h2⟩ := okRun_head h.head
    have hc : c' = c := by rw [txt_cons, h1] at e; exact (List.cons.inj e).1
    subst hc
    refine ⟨r, rs', rfl, txt_cons r rs', ?_⟩
    rcases h2 with h2 | h2 | h2 | h2 | ⟨h2, h3⟩
    · exact .inl h2
    · exact .inr (.inl h2)
    · exact .inr (.inr (.inl h2))
    · exact .inr (.inr (.inr (.inl h2)))
    · refine .inr (.inr (.inr (.inr ⟨h2, h3, ?_⟩)))
      have x := h.head.one (.inr h2)
      have y : cnt r = r.1.cps.toList := by rw [show r = (r.1, 1) from Prod.ext rfl x, cnt_w]
      rw [← y, h1]; rfl
theorem peel_w {rs : List Run} {c : Nat} {t : List Nat} {s : Str} (h : WF rs) (e : txt rs = c :: t) (hs : isW s) (hc : s.cps.toList.head? = some c) (hh : c ∈ heads) : ∃ rs', rs = (s, 1) :: rs' ∧ txt rs = s.cps.toList ++ txt rs' := by
  obtain ⟨r, rs', rfl, h1, h2⟩ := peel h e
  rcases h2 with ⟨_, rfl⟩ | ⟨_, rfl⟩ | ⟨_, rfl⟩ | ⟨_, rfl⟩ | ⟨a, _, b⟩
  · exact absurd hh (by decide)
  · exact absurd hh (by decide)
  · exact absurd hh (by decide)
  · exact absurd hh (by decide)
  · have := word_inj a hs (b.trans hc.symm)
    have x := h.head.one (.inr a)
    have hr : r = (s, 1) := Prod.ext this x
    subst hr
    exact ⟨rs', rfl, by rw [h1, cnt_w]⟩
theorem no_iso1 {rs : List Run} (h : WF rs) : txt rs ≠ 46 :: (Str.ofString "ISO8859-1").cps.toList := by
  intro e
  obtain ⟨r, rs1, rfl, h1, h2⟩ := peel h e
  rcases h2 with ⟨hr, _⟩ | ⟨_, x⟩ | ⟨_, x⟩ | ⟨_, x⟩ | ⟨_, x, _⟩
  · obtain ⟨n, hn⟩ := h.head.nat
    have x : cnt r = List.replicate (n + 1) 46 := by rw [show r = (r.1, ((n + 1 : Nat) : Int)) from Prod.ext rfl hn, cnt_one 46 _ _ (by rw [hr]; decide +kernel)]
    rw [h1, x] at e
    have e1 := (rep_inj (m := n + 1) (n := 1) (c := 46) (A := txt rs1) (B := (Str.ofString "ISO8859-1").cps.toList) (head_ne h hr (.inl ⟨rfl, rfl⟩)) (by decide +kernel) e).2
    obtain ⟨rs2, rfl, e2⟩ := peel_w (s := Str.ofString "ISO8859") (c := 73) h.tail (e1.trans (by decide +kernel : (Str.ofString "ISO8859-1").cps.toList = 73 :: [83, 79, 56, 56, 53, 57, 45, 49])) (by unfold isW; decide) (by decide +kernel) (by decide)
    have e3 : txt rs2 = [45, 49] := List.append_cancel_left ((e2.symm.trans e1).trans (by decide +kernel : (Str.ofString "ISO8859-1").cps.toList = (Str.ofString "ISO8859").cps.toList ++ [45, 49]))
    obtain ⟨r2, rs3, rfl, e4, h4⟩ := peel h.tail.tail e3
    rcases h4 with ⟨_, x⟩ | ⟨_, x⟩ | ⟨_, x⟩ | ⟨hr2, _⟩ | ⟨_, x, _⟩
    · exact absurd x (by decide)
    · exact absurd x (by decide)
    · exact absurd x (by decide)
    · have x2 := h.tail.tail.head.one (.inl hr2)
      have y2 : cnt r2 = [45] := by rw [show r2 = (sDash, 1) from Prod.ext hr2 x2, cnt_w]; decide +kernel
      rw [e4, y2] at e3
      have e5 : txt rs3 = [49] := (List.cons.inj e3).2
      obtain ⟨rs4, rfl, e6⟩ := peel_w (s := Str.ofString "15") (c := 49) h.tail.tail.tail e5 (by unfold isW; decide) (by decide +kernel) (by decide)
      rw [e6] at e5
      have := congrArg List.length e5
      rw [List.length_append, show (Str.ofString "15").cps.toList.length = 2 from by decide +kernel] at this
      simp at this; omega
    · exact absurd x (by decide)
  · exact absurd x (by decide)
  · exact absurd x (by decide)
  · exact absurd x (by decide)
  · exact absurd x (by decide)
theorem S_str (y : Str) : y = S y.cps.toList := S_eta y
theorem eq_euro {A : List Run} (h : WF A) : (S (txt A) == Str.ofString "euro") = true ↔ A = euroR := by
  rw [beq_iff_eq]
  constructor
  · intro e
    refine inj h wf_euro ?_
    rw [txt_euro]
    exact S_inj (e.trans (S_eta _))
  · rintro rfl
    rw [txt_euro]; exact (S_eta _).symm
theorem dw_nil {p : Nat → Bool} : ∀ {l : List Nat}, l.dropWhile p = [] ↔ ∀ x ∈ l, p x = true
  | [] => by simp
  | a :: l => by
    rw [List.dropWhile_cons]
    cases h : p a with
    | true => simp [h, dw_nil (l := l)]
    | false => simp [h]
theorem occ_empty {B : List Run} (h : WF B) : (Builtin.Str.occurrences (S (txt B)) (Str.ofString ".") 0 (S (txt B)).length 1).isEmpty = true ↔ fromDot B = [] := by
  rw [show Str.ofString "." = ⟨#[46]⟩ from by decide, empty_one, S_toList]
  have hd := drop_txt h
  constructor
  · intro e
    have hn : 46 ∉ txt B := by simpa using e
    refine txt_nil (wf_drop _ _ h) ?_
    show txt (fromDot B) = []
    rw [← hd, dw_nil]
    intro x hx
    have hx46 : x ≠ 46 := fun z => hn (by rw [← z]; exact hx)
    simpa using hx46
  · intro e
    rw [e] at hd
    have := dw_nil.mp hd
    simpa using fun hm => absurd (this 46 hm) (by decide)
theorem third {B : List Run} (h : WF B) (hne : fromDot B ≠ []) : txt (fromDot B) = 46 :: (Txt.partition (S (txt B)) (Str.ofString ".")).2.2.cps.toList := by
  have ho : (Builtin.Str.occurrences (S (txt B)) (Str.ofString ".") 0 (S (txt B)).length 1).isEmpty = false := by
    cases e : (Builtin.Str.occurrences (S (txt B)) (Str.ofString ".") 0 (S (txt B)).length 1).isEmpty with
    | false => rfl
    | true => exact absurd ((occ_empty h).mp e) hne
  have := from_first_some (x := S (txt B)) (y := Str.ofString ".") (z := S [46]) (c := 46) (by decide) rfl ho
  rw [beq_iff_eq, S_toList, drop_txt h] at this
  rw [S_eta (Txt.partition (S (txt B)) (Str.ofString ".")).2.2, S_app] at this
  exact (S_inj this).symm
theorem wf_mod {B A : List Run} (hB : WF B) (hA : WF A) : WF (modifiedL B A) := by
  unfold modifiedL
  split
  · rename_i hAe
    split
    · rename_i hf
      rcases List.eq_nil_or_concat B with rfl | ⟨ls, l, rfl⟩
      · exact wf_iso
      · rw [List.concat_eq_append] at *
        rw [List.append_assoc]
        refine wf_app (r := (Str.ofString ".", 1)) hB wf_iso ⟨fun e => ?_, fun q => nW_dot q.2, fun e => absurd e hB.last.2⟩
        have : ∀ r ∈ ls ++ [l], (r.1 != Str.ofString ".") = true := by
          have hd := hf
          unfold fromDot at hd
          intro r hr
          by_cases hz : (r.1 != Str.ofString ".") = true
          · exact hz
          · exfalso
            have key : ∀ (m : List Run), r ∈ m → m.dropWhile (fun r => r.1 != Str.ofString ".") ≠ [] := by
              intro m
              induction m with
              | nil => intro h; cases h
              | cons x m ih =>
                intro h
                rw [List.dropWhile_cons]
                split
                · rename_i hx
                  rcases List.mem_cons.mp h with rfl | h
                  · exact absurd hx hz
                  · exact ih h
                · simp
            exact key _ hr hd
        have := this l (by simp)
        rw [e] at this
        exact absurd this (by decide)
    · split
      · exact hB
      · subst hAe
        obtain ⟨ls, l, e, hl⟩ := last_sgn (L := B) (s := sAt) 1
        have h0 : WF [(sAt, (1 : Int))] := ⟨.inl ⟨.inr (.inr rfl), by simp⟩, by decide⟩
        have h3 : WF (joinedL B [(sAt, 1)]) := wf_joined hB h0 fun ls l r rs _ e => .inr (by cases e; exact .inr (.inr rfl))
        show WF (joinedL B [(sAt, 1)] ++ euroR)
        rw [e] at h3 ⊢
        rw [List.append_assoc]
        refine wf_app (r := (Str.ofString "euro", 1)) h3 wf_euro ⟨?_, fun q => ?_, fun q => ?_⟩
        · rw [hl]; decide
        · exact nW_at (hl ▸ q.1)
        · rw [hl] at q; exact absurd q (by decide)
  · exact wf_two (.inr (.inr rfl)) hB hA
theorem txt_mod {B A : List Run} (hB : WF B) (hA : WF A) : appendL (S (txt B)) (S (txt A)) = S (txt (modifiedL B A)) := by
  have x1 : Str.ofString "@" = S [64] := by decide
  have two : S (txt B) ++ Str.ofString "@" ++ S (txt A) = S (txt (joinedL (joinedL B atR) A)) := by
    rw [x1, S_app, S_app]
    have := txt_two (s := sAt) (.inr (.inr rfl)) hB hA
    show _ = S (txt (joinedL (joinedL B [(sAt, 1)]) A))
    rw [this, show sAt.cps.toList = [64] from by decide +kernel]
  unfold appendL modifiedL
  by_cases hA' : A = euroR
  · rw [if_pos ((eq_euro hA).mpr hA'), if_pos hA']
    by_cases hf : fromDot B = []
    · rw [if_pos ((occ_empty hB).mpr hf), if_pos hf, txt_app, txt_iso]
      rw [show Str.ofString ".ISO8859-15" = S (46 :: (Str.ofString "ISO8859-15").cps.toList) from by decide +kernel, S_app]
    · rw [if_neg (fun e => hf ((occ_empty hB).mp e)), if_neg hf]
      have ht := third hB hf
      have hw : WF (fromDot B) := wf_drop _ _ hB
      have i1 : ((Txt.partition (S (txt B)) (Str.ofString ".")).2.2 = Str.ofString "ISO8859-15") ↔ fromDot B = isoR := by
        constructor
        · intro e; rw [e] at ht; exact inj hw wf_iso (by rw [ht, txt_iso])
        · intro e; rw [e, txt_iso] at ht
          rw [S_eta (Txt.partition (S (txt B)) (Str.ofString ".")).2.2, ← (List.cons.inj ht).2]; exact (S_eta _).symm
      have i2 : ((Txt.partition (S (txt B)) (Str.ofString ".")).2.2 = Str.ofString "UTF-8") ↔ fromDot B = utfR := by
        constructor
        · intro e; rw [e] at ht; exact inj hw wf_utf (by rw [ht, txt_utf])
        · intro e; rw [e, txt_utf] at ht
          rw [S_eta (Txt.partition (S (txt B)) (Str.ofString ".")).2.2, ← (List.cons.inj ht).2]; exact (S_eta _).symm
      by_cases hc : fromDot B = utfR ∨ fromDot B = isoR
      · rw [if_pos hc, if_pos]
        rcases hc with hc | hc
        · have := i2.mpr hc; simp [this]
        · have := i1.mpr hc; simp [this]
      · rw [if_neg hc, if_neg, two]
        · subst hA'
          have h0 : WF [(sAt, (1 : Int))] := ⟨.inl ⟨.inr (.inr rfl), by simp⟩, by decide⟩
          have h3 : WF (joinedL B atR) := wf_joined hB h0 fun ls l r rs _ e => .inr (by cases e; exact .inr (.inr rfl))
          rw [txt_joined h3 hA, txt_app]
        · intro e
          simp only [List.any_cons, List.any_nil, Bool.or_false, Bool.or_eq_true, beq_iff_eq] at e
          rcases e with e | e
          · exact hc (.inr (i1.mp e.symm))
          · exact hc (.inl (i2.mp e.symm))
  · rw [if_neg (fun e => hA' ((eq_euro hA).mp e)), if_neg hA', two]
theorem no_iso {B : List Run} (hB : WF B) : ((Txt.partition (S (txt B)) (Str.ofString ".")).2.2 == Str.ofString "ISO8859-1") = false := by
  cases e : ((Txt.partition (S (txt B)) (Str.ofString ".")).2.2 == Str.ofString "ISO8859-1") with
  | false => rfl
  | true =>
    exfalso
    rw [beq_iff_eq] at e
    by_cases hf : fromDot B = []
    · have := (occ_empty hB).mpr hf
      unfold Txt.partition at e
      rw [List.isEmpty_iff] at this
      rw [this] at e
      exact absurd (show Str.empty = Str.ofString "ISO8859-1" from e) (by decide)
    · have ht := third hB hf
      rw [e] at ht
      exact no_iso1 (wf_drop _ _ hB) ht
theorem cnt_len {r : Run} (h : okRun r) : r.2 ≤ ((cnt r).length : Int) := by
  obtain ⟨n, hn⟩ := h.nat
  have hp : 1 ≤ r.1.cps.toList.length := by
    rcases h with ⟨hs, _⟩ | ⟨_, hs⟩
    · rcases hs with e | e | e <;> (rw [e]; decide +kernel)
    · rcases hs with e | e
      · rw [e]; decide +kernel
      · obtain ⟨c, l, e, _⟩ := isW_head e
        rw [e]; simp
  unfold cnt
  rw [List.length_flatten, List.map_replicate, List.sum_replicate_nat, hn]
  have : n + 1 ≤ (n + 1) * r.1.cps.toList.length := Nat.le_mul_of_pos_right _ (by omega)
  simp only [Int.toNat_natCast]
  omega
theorem wf_size : ∀ {rs : List Run}, WF rs → sizeL rs ≤ ((txt rs).length : Int) ∧ rs.length ≤ (txt rs).length
  | [], _ => by simp [sizeL, txt]
  | r :: rs, h => by
    have ih := wf_size h.tail
    have hc := cnt_len h.head
    obtain ⟨n, hn⟩ := h.head.nat
    rw [txt_cons, List.length_append]
    unfold sizeL at ih ⊢
    simp only [List.map_cons, List.sum_cons, List.length_cons]
    omega
theorem reads_len {y : Str} {ts : List Dat} (h : ReadsTo y ts) : ts.length ≤ y.length := by
  induction h with
  | nil => simp
  | @word y n ts hy _ h1 h2 _ _ _ ih =>
    obtain ⟨k, rfl⟩ := Int.eq_ofNat_of_zero_le (show (0 : Int) ≤ n by omega)
    rw [S_eta y, drop_S, S_len] at ih
    rw [S_eta y, S_len]
    have hne : y.cps.toList ≠ [] := fun e => hy (by rw [S_eta y, e]; decide)
    have := List.length_pos_iff.mpr hne
    rw [List.length_drop] at ih
    simp only [List.length_cons]; omega
  | @op y p ps ts hy hp _ ih =>
    have hin : inD p = true := (List.mem_filter.mp (show p ∈ piecesL y from by rw [hp]; simp)).2
    have hpl : 1 ≤ p.length := by
      rw [S_eta p, S_len]
      refine List.length_pos_iff.mpr fun e => ?_
      rw [S_eta p, e] at hin
      exact absurd hin (by decide)
    rw [S_eta y, drop_S, S_len, List.length_drop] at ih
    rw [S_eta y, S_len]
    have hne : y.cps.toList ≠ [] := fun e => hy (by rw [S_eta y, e]; decide)
    have := List.length_pos_iff.mpr hne
    simp only [List.length_cons]; omega
theorem told_size {rs : List Run} (h : WF rs) : (toldL rs).length ≤ (txt rs).length := by
  have := reads_len (reads_told h)
  rwa [S_len] at this
theorem mod_len {B A : List Run} (hB : WF B) (hA : WF A) : (txt (modifiedL B A)).length ≤ (txt B).length + (txt A).length + 11 := by
  have h0 : WF [(sAt, (1 : Int))] := ⟨.inl ⟨.inr (.inr rfl), by simp⟩, by decide⟩
  have h1 : (txt atR).length = 1 := by decide +kernel
  have h2 : (txt isoR).length = 11 := by decide +kernel
  have h3 : WF (joinedL B atR) := wf_joined hB h0 fun ls l r rs _ e => .inr (by cases e; exact .inr (.inr rfl))
  have h4 : (txt (joinedL B atR)).length = (txt B).length + 1 := by rw [txt_joined hB h0, List.length_append, h1]
  unfold modifiedL
  split
  · split
    · rw [txt_app, List.length_append, h2]; omega
    · split
      · omega
      · rw [txt_app, List.length_append, h4]; omega
  · have := txt_two (s := sAt) (.inr (.inr rfl)) hB hA
    show (txt (joinedL (joinedL B [(sAt, 1)]) A)).length ≤ _
    rw [this]
    have h5 : sAt.cps.toList.length = 1 := by decide +kernel
    simp only [List.length_append, h5]; omega
def dk : Nat → List Run
  | 1 => [(sEq, 3)] | 2 => [(sEq, 1)] | 3 => [(sEq, 2)] | 4 => [(sDot, 1)] | 5 => [(sDot, 2)] | 6 => [(sAt, 1)] | 7 => [(Str.ofString "euro", 1)]
  | 8 => [(Str.ofString "UTF", 1), (sDash, 1), (Str.ofString "8", 1)] | 9 => [(Str.ofString "ISO8859", 1), (sDash, 1), (Str.ofString "15", 1)] | _ => []
theorem wf_dk (k : Nat) : WF (dk k) := by
  unfold dk
  split
  · exact ⟨.inl ⟨.inr (.inl rfl), by decide⟩, by decide⟩
  · exact ⟨.inl ⟨.inr (.inl rfl), by decide⟩, by decide⟩
  · exact ⟨.inl ⟨.inr (.inl rfl), by decide⟩, by decide⟩
  · exact ⟨.inl ⟨.inl rfl, by decide⟩, by decide⟩
  · exact ⟨.inl ⟨.inl rfl, by decide⟩, by decide⟩
  · exact ⟨.inl ⟨.inr (.inr rfl), by decide⟩, by decide⟩
  · exact wf_euro
  · exact wf_utf.tail
  · exact wf_iso.tail
  · trivial
theorem len_dk (k : Nat) : (txt (dk k)).length ≤ 10 := by
  unfold dk
  split <;> decide +kernel
inductive Stack (rest : List (Addr × Obj)) : List Value → List Value → List (List Run) → Prop
  | nil : Stack rest [] [] []
  | push {nvs cvs : List Value} {gs : List (List Run)} {t : Tok} {v : Value} {g : List Run} : Stack rest nvs cvs gs → RunsIn rest v g → WF g → Stack rest (nvs ++ [.str (S (txt g)) t]) (cvs ++ [v]) (g :: gs)
theorem Stack.mono {rest rest' : List (Addr × Obj)} {nvs cvs : List Value} {gs : List (List Run)} (h : Stack rest nvs cvs gs) (hs : ∀ p ∈ rest, p ∈ rest') : Stack rest' nvs cvs gs := by
  induction h with
  | nil => exact .nil
  | push _ hr hw ih => exact .push ih (hr.mono hs) hw
theorem Stack.len {rest : List (Addr × Obj)} {nvs cvs : List Value} {gs : List (List Run)} (h : Stack rest nvs cvs gs) : nvs.length = gs.length ∧ cvs.length = gs.length := by
  induction h with
  | nil => exact ⟨rfl, rfl⟩
  | push _ _ _ ih => simp [ih.1, ih.2]
theorem Stack.pop {rest : List (Addr × Obj)} {nvs cvs : List Value} {g : List Run} {gs : List (List Run)} (h : Stack rest nvs cvs (g :: gs)) : ∃ nvs' t cvs' v, nvs = nvs' ++ [.str (S (txt g)) t] ∧ cvs = cvs' ++ [v] ∧ Stack rest nvs' cvs' gs ∧ RunsIn rest v g ∧ WF g := by
  cases h with
  | push h hr hw => exact ⟨_, _, _, _, rfl, rfl, h, hr, hw⟩
def total (gs : List (List Run)) : Nat := (gs.map fun g => (txt g).length).sum
theorem total_cons (g : List Run) (gs : List (List Run)) : total (g :: gs) = (txt g).length + total gs := by simp [total]
theorem wf_runsOk {rs : List Run} (h : WF rs) : runsOk rs := fun r hr => by
  rcases h.okall r hr with ⟨hs, _⟩ | ⟨_, hs⟩
  · rcases hs with e | e | e <;> (rw [e]; decide +kernel)
  · rcases hs with e | e | e | e | e | e | e <;> (rw [e]; decide +kernel)
theorem wf_strOk {rs : List Run} (h : WF rs) : ∀ d ∈ toldL rs, kqdOk 8 d = true := by
  have step : ∀ (rs : List Run) (acc : List Dat) (ah : Str), (∀ r ∈ rs, PyData.strOk r.1 = true) → (∀ d ∈ acc, kqdOk 8 d = true) → ∀ d ∈ (rs.foldl toldStep (acc, ah)).1, kqdOk 8 d = true := by
    intro rs
    induction rs with
    | nil => intro acc ah _ ha; exact ha
    | cons r rs ih =>
      intro acc ah hr ha
      rw [List.foldl_cons]
      have hi : ∀ n k, ∀ d ∈ intsD n k, kqdOk 8 d = true := fun n k d hd => by
        rw [(List.mem_replicate.mp hd).2]; rfl
      have key : ∀ d ∈ (toldStep (acc, ah) r).1, kqdOk 8 d = true := by
        unfold toldStep
        dsimp only
        intro d hd
        split at hd
        · rcases List.mem_append.mp hd with hd | hd
          · rcases List.mem_append.mp hd with hd | hd
            · exact ha d hd
            · exact hi _ _ d hd
          · exact hi _ _ d hd
        · split at hd
          · split at hd
            · rcases List.mem_append.mp hd with hd | hd
              · rcases List.mem_append.mp hd with hd | hd
                · rcases List.mem_append.mp hd with hd | hd
                  · exact ha d (List.dropLast_subset _ hd)
                  · rw [List.mem_singleton.mp hd]; rfl
                · exact hi _ _ d hd
              · exact hi _ _ d hd
            · rcases List.mem_append.mp hd with hd | hd
              · rcases List.mem_append.mp hd with hd | hd
                · exact ha d hd
                · exact hi _ _ d hd
              · exact hi _ _ d hd
          · split at hd
            · rcases List.mem_append.mp hd with hd | hd
              · exact ha d hd
              · exact hi _ _ d hd
            · split at hd
              · rcases List.mem_append.mp hd with hd | hd
                · exact ha d hd
                · rw [List.mem_singleton.mp hd]; rfl
              · rcases List.mem_append.mp hd with hd | hd
                · exact ha d hd
                · rw [List.mem_singleton.mp hd]; exact hr r (.head _)
      have := ih (toldStep (acc, ah) r).1 (toldStep (acc, ah) r).2 (fun r' hr' => hr r' (.tail _ hr')) key
      exact this
  exact step rs [] (Str.ofString "") (wf_runsOk h) (fun _ h => nomatch h)
theorem txt_strOk {rs : List Run} (h : WF rs) : PyData.strOk (S (txt rs)) = true := by
  have h1 := wf_runsOk h
  have key : ∀ c ∈ txt rs, c < 0x110000 := by
    intro c hc
    obtain ⟨r, hr, hc⟩ := List.mem_flatMap.mp hc
    unfold cnt at hc
    obtain ⟨l, hl, hc⟩ := List.mem_flatten.mp hc
    rw [(List.mem_replicate.mp hl).2] at hc
    have h2 := h1 r hr
    unfold PyData.strOk at h2
    rw [Array.all_eq_true_iff_forall_mem] at h2
    simpa using h2 c (Array.mem_toList_iff.mp hc)
  unfold PyData.strOk
  rw [Array.all_eq_true_iff_forall_mem]
  intro c hc
  have hc' : c ∈ txt rs := by simpa [S] using hc
  simpa using key c hc'
theorem Stack.dats {rest : List (Addr × Obj)} {nvs cvs : List Value} {gs : List (List Run)} (h : Stack rest nvs cvs gs) : ∃ ds, DatAll [] nvs ds ∧ (∀ d ∈ ds, kqdOk 8 d = true) ∧ ds.length = gs.length := by
  induction h with
  | nil => exact ⟨[], .nil, (fun _ h => nomatch h), rfl⟩
  | push _ _ hw ih =>
    obtain ⟨ds, h1, h2, h3⟩ := ih
    refine ⟨ds ++ [.str _], h1.append (.cons (.str _ _) .nil), fun d hd => ?_, by simp [h3]⟩
    rcases List.mem_append.mp hd with hd | hd
    · exact h2 d hd
    · rw [List.mem_singleton.mp hd]; exact txt_strOk hw
section
variable {prog : Program} {w : World} {A : Around} {E : Value → Shared → Prop} {s : Shared} {h₀ : Heap} {L a : Addr} {m : Str → Option Value} {news rest : List (Addr × Obj)} {vs : List Value} {x : Value} {n : Nat}
theorem my_pop2 {Q : Value → Shared → Prop} (F : Fr h₀ L s.heap m) (N : News h₀ L s.heap news) (ma : (a, W.listOf (vs ++ [x]).toArray n) ∈ news) (hn : ∀ p ∈ rest, p.1 ≠ a) (hs : ∀ p ∈ rest, p ∈ news) (hz : vs.length ≤ 1000000)
    (h : ∀ h', Fr h₀ L h' m → News h₀ L h' ((a, W.listOf vs.toArray (n + 1)) :: rest) → Q x { s with heap := h' }) : wpAny (model prog w) A (call (.builtin "list.pop") [.ref a]) Q E s := by
  have N2 : News h₀ L s.heap ((a, W.listOf (vs ++ [x]).toArray n) :: rest) := cb_drop N (List.forall_mem_cons.mpr ⟨ma, hs⟩)
  exact my_pop F N2 (.head hn) (by simp [PySem.sizeLine_eq]; omega) h
end
structure Offs (ln lc I : Addr) (R : List (Addr × Obj)) : Prop where
  nc : ln ≠ lc
  nI : ln ≠ I
  cI : lc ≠ I
  rn : ∀ p ∈ R, p.1 ≠ ln
  rc : ∀ p ∈ R, p.1 ≠ lc
  rI : ∀ p ∈ R, p.1 ≠ I
section
variable {ln lc I : Addr} {oI on oc : Obj} {R tl : List (Addr × Obj)}
theorem Offs.offN (h : Offs ln lc I R) : ∀ p ∈ (I, oI) :: (lc, oc) :: R, p.1 ≠ ln := List.forall_mem_cons.mpr ⟨h.nI.symm, List.forall_mem_cons.mpr ⟨h.nc.symm, h.rn⟩⟩
theorem Offs.offC (h : Offs ln lc I R) : ∀ p ∈ (ln, on) :: (I, oI) :: R, p.1 ≠ lc := List.forall_mem_cons.mpr ⟨h.nc, List.forall_mem_cons.mpr ⟨h.cI.symm, h.rc⟩⟩
theorem Offs.grow (h : Offs ln lc I R) (ho : ∀ q ∈ (lc, oc) :: (ln, on) :: (I, oI) :: R, ∀ p ∈ tl, q.1 ≠ p.1) : Offs ln lc I (R ++ tl) := by
  refine ⟨h.nc, h.nI, h.cI, fun p hp => ?_, fun p hp => ?_, fun p hp => ?_⟩
  · exact (List.mem_append.mp hp).elim (h.rn p) fun hp => (ho _ (.tail _ (.head _)) p hp).symm
  · exact (List.mem_append.mp hp).elim (h.rc p) fun hp => (ho _ (.head _) p hp).symm
  · exact (List.mem_append.mp hp).elim (h.rI p) fun hp => (ho _ (.tail _ (.tail _ (.head _))) p hp).symm
end
def LJ (D : Addr) (dvs : List Value) (i : Nat) (m : Str → Option Value) (nx : List (Addr × Obj)) : Prop :=
  ∃ (ln lc lp lr : Addr) (nn nc np nr : Nat) (nvs cvs pvs rvs : List Value) (rest : List (Addr × Obj)) (gs : List (List Run)),
    (∀ p ∈ (ln, W.listOf nvs.toArray nn) :: (lc, W.listOf cvs.toArray nc) :: rest, p ∈ nx) ∧ ln ≠ lc ∧ (∀ p ∈ rest, p.1 ≠ ln) ∧ (∀ p ∈ rest, p.1 ≠ lc) ∧
    (m (Str.ofString "names") = some (.ref ln) ∧ m (Str.ofString "counts") = some (.ref lc) ∧ m (Str.ofString "pieces") = some (.ref lp) ∧ m (Str.ofString "runs") = some (.ref lr)) ∧
    (D, W.listOf dvs.toArray 0) ∈ rest ∧ (lp, W.listOf pvs.toArray np) ∈ rest ∧ (lr, W.listOf rvs.toArray nr) ∈ rest ∧
    (∀ k, k < 10 → ∃ t v, pvs[k]? = some (.str (S (txt (dk k))) t) ∧ rvs[k]? = some v ∧ RunsIn rest v (dk k)) ∧
    Stack rest nvs cvs gs ∧ gs ≠ [] ∧ total gs ≤ 1 + 11 * i ∧ gs.length ≤ 1 + i
theorem deed_of {ws : List Value} {zs : List Int} : IntsAre ws zs → ∀ {i : Nat} {v : Value}, ws[i]? = some v → ∃ d u, v = .int d u ∧ zs[i]? = some d := by
  intro h
  induction h with
  | nil => intro i v hv; cases hv
  | cons x t _ ih =>
    intro i v hv
    cases i with
    | zero => cases hv; exact ⟨_, _, rfl, rfl⟩
    | succ i => exact ih hv
theorem deed_lt {ns : List Int} {i : Nat} {d : Int} (h : (List.map (fun k' => Int.fmod k' 13) (List.take 12 ns) ++ [10, 11, 10])[i]? = some d) : 0 ≤ d ∧ d < 13 ∧ i < 15 := by
  have hm := List.mem_of_getElem? h
  have hi := (List.getElem?_eq_some_iff.mp h).1
  have hl : (List.map (fun k' => Int.fmod k' 13) (List.take 12 ns) ++ [10, 11, 10]).length ≤ 15 := by simp; omega
  refine ⟨?_, ?_, by omega⟩
  · rcases List.mem_append.mp hm with hm | hm
    · obtain ⟨k, _, rfl⟩ := List.mem_map.mp hm
      exact Int.fmod_nonneg_of_pos _ (by decide)
    · simp at hm; omega
  · rcases List.mem_append.mp hm with hm | hm
    · obtain ⟨k, _, rfl⟩ := List.mem_map.mp hm
      exact Int.fmod_lt_of_pos _ (by decide)
    · simp at hm; omega
section
variable {prog : Program} {w : World} {A : Around} {E : Value → Shared → Prop} {s : Shared} {env : Env} {h₀ : Heap} {target : Expr} {body : List Stmt} {Q : Flow → Shared → Prop}
theorem my_turnsI {l : Addr} {vs : List Value} {nn : Nat} {m₀ : Str → Option Value} {news : List (Addr × Obj)} (J : Nat → (Str → Option Value) → List (Addr × Obj) → Prop)
    (hh : A.handled = none) (hl : (l, W.listOf vs.toArray nn) ∈ news) (F : Fr h₀ env.locals s.heap m₀) (N : News h₀ env.locals s.heap news) (hj : J 0 m₀ news)
    (turn : ∀ i v m₁ nx h tk I oI, vs[i]? = some v → (∀ p ∈ nx, p.1 ≠ I) → (l, W.listOf vs.toArray nn) ∈ nx → J i m₁ nx → Fr h₀ env.locals h m₁ → News h₀ env.locals h ((I, oI) :: nx) → oI.cls = .type "list_iterator" →
      wpAny (model prog w) A (assign target env v) (fun _ s₃ => wpAny (model prog w) A (execs body env) (TurnEnd h₀ env.locals I oI (fun m' nx => (l, W.listOf vs.toArray nn) ∈ nx ∧ J (i + 1) m' nx) { s with heap := h, toks := tk } Q) E s₃) E { s with heap := h, toks := tk })
    (done : ∀ m₁ nx h tk, (l, W.listOf vs.toArray nn) ∈ nx → J vs.length m₁ nx → Fr h₀ env.locals h m₁ → News h₀ env.locals h nx → Q .next { s with heap := h, toks := tk }) :
    wpAny (model prog w) A (pyIter (.ref l)) (fun it s₂ => TurnsAt prog w A h₀ env target body Q E it s₂) E s := by
  have hol : s.heap.get? l = some (W.listOf vs.toArray nn) := (N _ hl).1
  have hls : s.heap.IsList l vs.toArray := ⟨_, hol, rfl, nn, rfl⟩
  have hne : l ≠ s.heap.objs.size := Nat.ne_of_lt (Heap.lt_size hol)
  have up : ∀ {b : Addr} {o : Obj}, s.heap.get? b = some o → (s.heap.push { cls := .type "list_iterator", data := .fields #[.ref l, .int 0 0] }).get? b = some o := fun e => Heap.get?_push_of_some _ e
  refine wpAny_pyIter_list hls ?_
  have Wk := Walks.list (prog := prog) (w := w) hh s.heap.objs.size l hne vs.toArray
  have hlen : vs.toArray.size = vs.length := by simp
  rw [hlen] at Wk
  refine ⟨s.heap.objs.size, _, _, vs.length, _, _, _, m₀, news, (fun i m nx => (l, W.listOf vs.toArray nn) ∈ nx ∧ J i m nx), rfl, KTurns.ofWalks Wk (fun i v s Q E st q => letGo_listiter st.1 q), ?_, ?_, ?_, ⟨⟨_, Heap.get?_push_size _ rfl, rfl, rfl⟩, hls.at fun o e => up e⟩, F.push _, (fun p hp => ⟨up (N p hp).1, (N p hp).2⟩), ⟨hl, hj⟩, ?_, ?_⟩
  · intro hm
    rcases List.mem_cons.mp hm with e | hm
    · exact absurd F.ns.lt (e ▸ Nat.lt_irrefl _)
    · exact (N _ hl).2.1 (List.mem_singleton.mp hm).symm
  · intro b hb
    rw [List.mem_singleton.mp hb]
    exact next_is_new F
  · intro p hp hI
    exact absurd (Heap.lt_size (N p hp).1) (List.mem_singleton.mp hI ▸ Nat.lt_irrefl _)
  · rintro i v m₁ nx h₁ tk₁ own hin hP ⟨hml, hJ⟩ hoff hown hget hmem hst F₁ N₁
    have hv : vs[i]? = some v := by simpa using hP
    obtain ⟨⟨oI, hoI, hcI, _⟩, _⟩ := id hst
    have hIown : (s.heap.objs.size, oI) ∈ own := hmem _ (List.mem_cons.mpr (.inl rfl)) (next_is_new F) _ hoI
    have hnI : ∀ p ∈ nx, p.1 ≠ s.heap.objs.size := fun p hp e => hoff p hp (List.mem_singleton.mpr e)
    refine wpAny_mono (turn i v m₁ nx h₁ tk₁ _ oI hv hnI hml hJ F₁ (fun p hp => ?_) hcI) (fun _ s₃ q => wpAny_mono q (fun f s₂ p => ?_) fun _ _ e => e) fun _ _ e => e
    · rcases List.mem_cons.mp hp with rfl | hp
      · exact N₁ _ (List.mem_append_left _ hIown)
      · exact N₁ p (List.mem_append_right _ hp)
    · have fin : (∃ h' tk m' nx', s₂ = { ({ s with heap := h₁, toks := tk₁ } : Shared) with heap := h', toks := tk } ∧ Fr h₀ env.locals h' m' ∧ News h₀ env.locals h' ((s.heap.objs.size, oI) :: nx') ∧ (∀ p ∈ nx', p.1 ≠ s.heap.objs.size) ∧ ((l, W.listOf vs.toArray nn) ∈ nx' ∧ J (i + 1) m' nx')) →
          LoopStepU h₀ env.locals [s.heap.objs.size] own (fun m nx => (l, W.listOf vs.toArray nn) ∈ nx ∧ J (i + 1) m nx) { s with heap := h₁, toks := tk₁ } .next s₂ := by
        rintro ⟨h', tk, m', nx', e, F', N', ha, hm⟩
        refine ⟨rfl, h', tk, m', nx', e, F', fun p hp => ?_, fun p hp hq => ha p hp (List.mem_singleton.mp hq), hm⟩
        rcases List.mem_append.mp hp with h | h
        · have hg := hget p h
          rcases List.mem_cons.mp (hown p h) with h2 | h2
          · rw [h2, hoI] at hg
            have : p = (s.heap.objs.size, oI) := Prod.ext h2 (Option.some.inj hg).symm
            rw [this]
            exact N' _ (.head _)
          · have h2 := List.mem_singleton.mp h2
            have hlo : h₁.get? l = some (W.listOf vs.toArray nn) := (N₁ _ (List.mem_append_right _ hml)).1
            rw [h2, hlo] at hg
            have : p = (l, W.listOf vs.toArray nn) := Prod.ext h2 (Option.some.inj hg).symm
            rw [this]
            exact N' _ (.tail _ hm.1)
        · exact N' p (.tail _ h)
      cases f with
      | ret v => exact .ret p
      | brk => exact .brk p
      | next => exact .next (fin p)
      | cont => exact .cont (fin p)
  · rintro h' tk m' nx F' N' _ ⟨hml, hJ⟩
    exact done m' nx h' tk hml hJ F' N'
theorem law_turns {l : Addr} {vs : List Value} {m₀ : Str → Option Value} {news : List (Addr × Obj)}
    (hh : A.handled = none) (hl : (l, W.listOf vs.toArray 0) ∈ news) (F : Fr h₀ env.locals s.heap m₀) (N : News h₀ env.locals s.heap news) (hj : LJ l vs 0 m₀ news)
    (turn : ∀ i v m₁ nx h tk I oI, vs[i]? = some v → (∀ p ∈ nx, p.1 ≠ I) → (l, W.listOf vs.toArray 0) ∈ nx → LJ l vs i m₁ nx → Fr h₀ env.locals h m₁ → News h₀ env.locals h ((I, oI) :: nx) → oI.cls = .type "list_iterator" →
      wpAny (model prog w) A (assign target env v) (fun _ s₃ => wpAny (model prog w) A (execs body env) (TurnEnd h₀ env.locals I oI (fun m' nx => (l, W.listOf vs.toArray 0) ∈ nx ∧ LJ l vs (i + 1) m' nx) { s with heap := h, toks := tk } Q) E s₃) E { s with heap := h, toks := tk })
    (done : ∀ m₁ nx h tk, (l, W.listOf vs.toArray 0) ∈ nx → LJ l vs vs.length m₁ nx → Fr h₀ env.locals h m₁ → News h₀ env.locals h nx → Q .next { s with heap := h, toks := tk }) :
    wpAny (model prog w) A (pyIter (.ref l)) (fun it s₂ => TurnsAt prog w A h₀ env target body Q E it s₂) E s := my_turnsI (LJ l vs) hh hl F N hj turn done
end
theorem lt_ne {news : List (Addr × Obj)} {D a : Addr} {o : Obj} (h : ∀ p ∈ news, p.1 < D) (m : (a, o) ∈ news) : a ≠ D := Nat.ne_of_lt (h _ m)
theorem gt_ne {news : List (Addr × Obj)} {D a : Addr} {o : Obj} (h : ∀ p ∈ news, p.1 < D) (m : (a, o) ∈ news) : D ≠ a := Nat.ne_of_gt (h _ m)
theorem law_end {D : Addr} {dvs : List Value} {i : Nat} {h₀ h' : Heap} {L I : Addr} {oI : Obj} {m' : Str → Option Value} {ln lc lp lr : Addr} {nn nc np nr : Nat} {nvs cvs pvs rvs : List Value} {R : List (Addr × Obj)} {gs : List (List Run)} {s₁ : Shared} {tk : Nat} {Q : Flow → Shared → Prop}
    (F : Fr h₀ L h' m') (N : News h₀ L h' ((lc, W.listOf cvs.toArray nc) :: (ln, W.listOf nvs.toArray nn) :: (I, oI) :: R)) (O : Offs ln lc I R)
    (hm : m' (Str.ofString "names") = some (.ref ln) ∧ m' (Str.ofString "counts") = some (.ref lc) ∧ m' (Str.ofString "pieces") = some (.ref lp) ∧ m' (Str.ofString "runs") = some (.ref lr))
    (hD : (D, W.listOf dvs.toArray 0) ∈ R) (hP : (lp, W.listOf pvs.toArray np) ∈ R) (hR : (lr, W.listOf rvs.toArray nr) ∈ R)
    (hdk : ∀ k, k < 10 → ∃ t v, pvs[k]? = some (.str (S (txt (dk k))) t) ∧ rvs[k]? = some v ∧ RunsIn R v (dk k))
    (hst : Stack R nvs cvs gs) (hne : gs ≠ []) (htot : total gs ≤ 1 + 11 * (i + 1)) (hlen : gs.length ≤ 1 + (i + 1)) :
    TurnEnd h₀ L I oI (fun m' nx => (D, W.listOf dvs.toArray 0) ∈ nx ∧ LJ D dvs (i + 1) m' nx) s₁ Q .next { s₁ with heap := h', toks := tk } := by
  refine ⟨h', tk, m', (ln, W.listOf nvs.toArray nn) :: (lc, W.listOf cvs.toArray nc) :: R, rfl, F, fun p hp => N p ?_, ?_, .tail _ (.tail _ hD), ln, lc, lp, lr, nn, nc, np, nr, nvs, cvs, pvs, rvs, R, gs, fun p hp => hp, O.nc, O.rn, O.rc, hm, hD, hP, hR, hdk, hst, hne, htot, hlen⟩
  · rcases List.mem_cons.mp hp with rfl | hp
    · exact .tail _ (.tail _ (.head _))
    · rcases List.mem_cons.mp hp with rfl | hp
      · exact .tail _ (.head _)
      · rcases List.mem_cons.mp hp with rfl | hp
        · exact .head _
        · exact .tail _ (.tail _ (.tail _ hp))
  · exact List.forall_mem_cons.mpr ⟨O.nI, List.forall_mem_cons.mpr ⟨O.cI, O.rI⟩⟩
theorem dk_mono {R R' : List (Addr × Obj)} {pvs rvs : List Value} (hs : ∀ p ∈ R, p ∈ R') (h : ∀ k, k < 10 → ∃ t v, pvs[k]? = some (.str (S (txt (dk k))) t) ∧ rvs[k]? = some v ∧ RunsIn R v (dk k)) : ∀ k, k < 10 → ∃ t v, pvs[k]? = some (.str (S (txt (dk k))) t) ∧ rvs[k]? = some v ∧ RunsIn R' v (dk k) := by
  intro k hk
  obtain ⟨t, v, h1, h2, h3⟩ := h k hk
  exact ⟨t, v, h1, h2, h3.mono hs⟩
theorem Tel0.use {w : World} {f : Addr} {news : List (Addr × Obj)} {vs : List Value} {S : Nat} {Out : List (Addr × Obj) → Value → Prop} {mean : ExcName → Option Value} {mg mb : Str → Option Value} {dp un : Nat} {gd : Option (List Code)} {cn : Str} {cs : Scope} {a : Addr} {ccd : Value} {A₀ : Around} {h₀ : Heap} {L : Addr} {m : Str → Option Value} {s : Shared} {Q E : Value → Shared → Prop}
    (B : Below A₀ h₀ [] h₀) (F : Fr h₀ L s.heap m) (X : (Mine.hd.heap_39 w.params).In h₀) (N : News h₀ L s.heap news) (T : Top Mine.hd.view_39 (looseW Mine.hd.view_39 [Str.ofString "locale_encoding_alias", Str.ofString "EXACT_TOKEN_TYPES"]) mean mg mb h₀) (hk : cs.kind = .function)
    (C : Tel0 w f news vs S Out) (hd : dp + S < recursionLimit) (hu : un + 8 * S < cLine)
    (ret : ∀ r tl h' tk', Fr h₀ L h' m → News h₀ L h' (news ++ tl) → (∀ q ∈ news, ∀ p ∈ tl, q.1 ≠ p.1) → Out (news ++ tl) r → Q r { s with heap := h', toks := tk' }) :
    wpAny (model PySem.Challenge.rw_il0204_01.row.prog w) (ktrTop dp un gd cn cs L a ccd [] []) (call (.ref f) vs) Q E s := C _ _ _ _ _ _ _ _ _ _ _ _ _ _ _ _ _ B F X N T hk hd hu ret
theorem lt_all {D : Addr} : ∀ {l : List (Addr × Obj)}, AllLt D l → ∀ p ∈ l, p.1 < D
  | [], _, _, hp => nomatch hp
  | x :: l, h, p, hp => by
    rcases List.mem_cons.mp hp with rfl | hp
    · exact h.1
    · exact lt_all h.2 p hp
theorem lt_conv {h₀ h : Heap} {L D : Addr} {o : Obj} {l : List (Addr × Obj)} (_N : News h₀ L h ((D, o) :: l)) (h : AllLt D l) : ∀ p ∈ l, p.1 < D := lt_all h
theorem listOf_inj {a b : List Value} {n k : Nat} (h : W.listOf a.toArray n = W.listOf b.toArray k) : a = b := by
  have h2 : Data.seq a.toArray n = Data.seq b.toArray k := congrArg Obj.data h
  injection h2 with h3 _
  simpa using h3
theorem news_inj {h₀ h : Heap} {L a : Addr} {news : List (Addr × Obj)} {x y : List Value} {n k : Nat} (N : News h₀ L h news) (hx : (a, W.listOf x.toArray n) ∈ news) (hy : (a, W.listOf y.toArray k) ∈ news) : x = y :=
  listOf_inj (Option.some.inj ((N _ hx).1.symm.trans (N _ hy).1))
theorem Stack.strs {rest : List (Addr × Obj)} {nvs cvs : List Value} {gs : List (List Run)} (h : Stack rest nvs cvs gs) : (∀ v ∈ nvs, ∃ x t, v = .str x t) ∧ ∀ v ∈ cvs, ∃ g, RunsIn rest v g := by
  induction h with
  | nil => exact ⟨(fun _ h => nomatch h), (fun _ h => nomatch h)⟩
  | push _ hr _ ih =>
    refine ⟨fun v hv => ?_, fun v hv => ?_⟩
    · rcases List.mem_append.mp hv with hv | hv
      · exact ih.1 v hv
      · exact ⟨_, _, List.mem_singleton.mp hv⟩
    · rcases List.mem_append.mp hv with hv | hv
      · exact ih.2 v hv
      · exact ⟨_, List.mem_singleton.mp hv ▸ hr⟩
theorem runs_rest {h₀ h : Heap} {L ln lc I : Addr} {oI : Obj} {nc nn : Nat} {nvs cvs : List Value} {R : List (Addr × Obj)} {gs : List (List Run)} {v : Value} {due : List Run}
    (N : News h₀ L h ((lc, W.listOf cvs.toArray nc) :: (ln, W.listOf nvs.toArray nn) :: (I, oI) :: R)) (hst : Stack R nvs cvs gs) (hoI : oI.cls = .type "list_iterator") (hne : due ≠ [])
    (hr : RunsIn ((lc, W.listOf cvs.toArray nc) :: (ln, W.listOf nvs.toArray nn) :: (I, oI) :: R) v due) : RunsIn R v due := by
  obtain ⟨hs, hc⟩ := hst.strs
  have hI : ∀ {a : Addr} {xs : List Value} {n : Nat}, (a, W.listOf xs.toArray n) ≠ (I, oI) := fun e => by
    have := congrArg Obj.cls (congrArg Prod.snd e)
    rw [hoI] at this
    exact absurd this (by show ¬ (Value.type _ = Value.type _); decide)
  have pick : ∀ {a : Addr} {xs : List Value} {n : Nat}, (a, W.listOf xs.toArray n) ∈ (lc, W.listOf cvs.toArray nc) :: (ln, W.listOf nvs.toArray nn) :: (I, oI) :: R → xs = cvs ∨ xs = nvs ∨ (a, W.listOf xs.toArray n) ∈ R := by
    intro a xs n hm
    rcases List.mem_cons.mp hm with e | hm
    · exact .inl (listOf_inj (congrArg Prod.snd e))
    · rcases List.mem_cons.mp hm with e | hm
      · exact .inr (.inl (listOf_inj (congrArg Prod.snd e)))
      · rcases List.mem_cons.mp hm with e | hm
        · exact absurd e hI
        · exact .inr (.inr hm)
  have inner : ∀ {a : Addr} {x : Str} {t u : Tok} {c : Int} {n : Nat}, (a, W.listOf [Value.str x t, Value.int c u].toArray n) ∈ (lc, W.listOf cvs.toArray nc) :: (ln, W.listOf nvs.toArray nn) :: (I, oI) :: R → (a, W.listOf [Value.str x t, Value.int c u].toArray n) ∈ R := by
    intro a x t u c n hm
    rcases pick hm with e | e | hm
    · obtain ⟨g, hg⟩ := hc (.str x t) (e ▸ .head _)
      cases hg
    · obtain ⟨y, t, hy⟩ := hs (.int c u) (e ▸ .tail _ (.head _))
      cases hy
    · exact hm
  have all : ∀ {vs : List Value} {rs : List Run}, RunsAll ((lc, W.listOf cvs.toArray nc) :: (ln, W.listOf nvs.toArray nn) :: (I, oI) :: R) vs rs → RunsAll R vs rs := by
    intro vs rs hv
    induction hv with
    | nil => exact .nil
    | cons hm _ ih => exact .cons (inner hm) ih
  obtain ⟨a, vs, n, rfl, hm, hv⟩ := hr.inv
  have hv' := all hv
  rcases pick hm with e | e | hm
  · cases hv' with
    | nil => exact absurd rfl hne
    | cons hm2 _ =>
      rw [← e] at hc
      obtain ⟨g, hg⟩ := hc _ (List.Mem.head _)
      obtain ⟨b, us, k, hb, hmu, hu⟩ := hg.inv
      cases hb
      have := news_inj N (.tail _ (.tail _ (.tail _ hmu))) (.tail _ (.tail _ (.tail _ hm2)))
      subst this
      cases hu
  · cases hv' with
    | nil => exact absurd rfl hne
    | cons _ _ =>
      rw [← e] at hs
      obtain ⟨y, t, hy⟩ := hs _ (List.Mem.head _)
      cases hy
  · exact .mk hm hv'
theorem settle {h₀ h : Heap} {L ln lc I : Addr} {oI on oc : Obj} {R nl tl : List (Addr × Obj)} (O : Offs ln lc I R) (N : News h₀ L h nl) (x : Ext ((lc, oc) :: (ln, on) :: (I, oI) :: R) nl tl) :
    ∃ R', (∀ p ∈ R, p ∈ R') ∧ Offs ln lc I R' ∧ News h₀ L h ((lc, oc) :: (ln, on) :: (I, oI) :: R') ∧ (∀ p ∈ nl, p ∈ (lc, oc) :: (ln, on) :: (I, oI) :: R') :=
  ⟨R ++ tl, fun p hp => List.mem_append_left _ hp, O.grow x.ord, fun p hp => N p (x.sub p hp), x.sup⟩
theorem dlist_inv {news : List (Addr × Obj)} {v : Value} {ds : List Dat} (h : DatIn news v (.list ds)) : ∃ a vs n, v = .ref a ∧ (a, W.listOf vs.toArray n) ∈ news ∧ DatAll news vs ds := by
  cases h with
  | list hm hr => exact ⟨_, _, _, rfl, hm, hr⟩
theorem joinedL_ne {l r : List Run} (h : l ≠ [] ∨ r ≠ []) : joinedL l r ≠ [] := by
  match l, r with
  | [], r => simpa [joinedL] using h
  | [x], [] => simp [joinedL]
  | [x], y :: ys => simp only [joinedL]; split <;> simp
  | x :: y :: ls, r => simp [joinedL]
theorem mod_ne {B A : List Run} : modifiedL B A ≠ [] := by
  unfold modifiedL
  split
  · rename_i ha
    split
    · simp
    · rename_i hf
      split
      · intro e
        rw [e] at hf
        exact hf rfl
      · simp [joinedL_ne, ha]
  · exact joinedL_ne (.inl (joinedL_ne (.inr (by simp))))
abbrev cdR : List Run := [(Str.ofString "C", 1), (Str.ofString ".", 1)]
theorem wf_cd : WF cdR := ⟨.inr ⟨rfl, .inr (.inl rfl)⟩, j_of (by decide) (.inr nW_dot) (fun e => absurd e (by decide)), .inl ⟨.inl rfl, by decide⟩, by decide⟩
theorem wf_dot : WF [(Str.ofString ".", 1)] := ⟨.inl ⟨.inl rfl, by decide⟩, by decide⟩
theorem txt_cd : txt cdR = [67, 46] := by decide +kernel
theorem name_c {g : List Run} (h : WF g) : Str.ofString "C" ++ Str.ofString "." ++ S (txt g) = S (txt (joinedL cdR g)) := by
  rw [txt_joined wf_cd h, txt_cd, ← S_app]
  rfl
theorem name_cc {g2 g : List Run} (h2 : WF g2) (h : WF g) : S (txt g2) ++ Str.ofString "." ++ S (txt g) = S (txt (joinedL (joinedL g2 [(Str.ofString ".", 1)]) g)) := by
  rw [txt_two (.inl rfl) h2 h, ← S_app, ← S_app, ← S_eta]
theorem wf_c {g : List Run} (h : WF g) : WF (joinedL cdR g) := wf_joined wf_cd h fun ls l r rs e _ => .inl (by
  have : ls ++ [l] = [(Str.ofString "C", 1)] ++ [(Str.ofString ".", 1)] := e.symm
  have := (List.append_inj' this rfl).2
  cases this
  exact .inl rfl)
theorem len_c {g : List Run} (h : WF g) : (txt (joinedL cdR g)).length = (txt g).length + 2 := by
  rw [txt_joined wf_cd h, txt_cd]; simp
theorem len_cc {g2 g : List Run} (h2 : WF g2) (h : WF g) : (txt (joinedL (joinedL g2 [(Str.ofString ".", 1)]) g)).length = (txt g2).length + (txt g).length + 1 := by
  rw [txt_two (.inl rfl) h2 h]; simp [show (Str.ofString ".").cps.toList = [46] from by decide]; omega
theorem dk_all {post : List (Addr × Obj)} {t0 t1 t2 t3 t4 t5 t6 t7 t8 t9 : Tok} {v0 v1 v2 v3 v4 v5 v6 v7 v8 v9 : Value}
    (h0 : RunsIn post v0 []) (h1 : RunsIn post v1 [(sEq, 3)]) (h2 : RunsIn post v2 [(sEq, 1)]) (h3 : RunsIn post v3 [(sEq, 2)]) (h4 : RunsIn post v4 [(sDot, 1)]) (h5 : RunsIn post v5 [(sDot, 2)]) (h6 : RunsIn post v6 [(sAt, 1)]) (h7 : RunsIn post v7 [(Str.ofString "euro", 1)])
    (h8 : RunsIn post v8 [(Str.ofString "UTF", 1), (sDash, 1), (Str.ofString "8", 1)]) (h9 : RunsIn post v9 [(Str.ofString "ISO8859", 1), (sDash, 1), (Str.ofString "15", 1)]) :
    ∀ k, k < 10 → ∃ t v, [Value.str (Str.ofString "") t0, Value.str (Str.ofString "===") t1, Value.str (Str.ofString "=") t2, Value.str (Str.ofString "==") t3, Value.str (Str.ofString ".") t4, Value.str (Str.ofString "..") t5, Value.str (Str.ofString "@") t6, Value.str (Str.ofString "euro") t7, Value.str (Str.ofString "UTF-8") t8, Value.str (Str.ofString "ISO8859-15") t9][k]? = some (.str (S (txt (dk k))) t) ∧ [v0, v1, v2, v3, v4, v5, v6, v7, v8, v9][k]? = some v ∧ RunsIn post v (dk k) := by
  intro k hk
  rcases (show k = 0 ∨ k = 1 ∨ k = 2 ∨ k = 3 ∨ k = 4 ∨ k = 5 ∨ k = 6 ∨ k = 7 ∨ k = 8 ∨ k = 9 by omega) with rfl | rfl | rfl | rfl | rfl | rfl | rfl | rfl | rfl | rfl
  · exact ⟨t0, v0, by rw [show S (txt (dk 0)) = Str.ofString "" from by decide +kernel]; rfl, rfl, h0⟩
  · exact ⟨t1, v1, by rw [show S (txt (dk 1)) = Str.ofString "===" from by decide +kernel]; rfl, rfl, h1⟩
  · exact ⟨t2, v2, by rw [show S (txt (dk 2)) = Str.ofString "=" from by decide +kernel]; rfl, rfl, h2⟩
  · exact ⟨t3, v3, by rw [show S (txt (dk 3)) = Str.ofString "==" from by decide +kernel]; rfl, rfl, h3⟩
  · exact ⟨t4, v4, by rw [show S (txt (dk 4)) = Str.ofString "." from by decide +kernel]; rfl, rfl, h4⟩
  · exact ⟨t5, v5, by rw [show S (txt (dk 5)) = Str.ofString ".." from by decide +kernel]; rfl, rfl, h5⟩
  · exact ⟨t6, v6, by rw [show S (txt (dk 6)) = Str.ofString "@" from by decide +kernel]; rfl, rfl, h6⟩
  · exact ⟨t7, v7, by rw [show S (txt (dk 7)) = Str.ofString "euro" from by decide +kernel]; rfl, rfl, h7⟩
  · exact ⟨t8, v8, by rw [show S (txt (dk 8)) = Str.ofString "UTF-8" from by decide +kernel]; rfl, rfl, h8⟩
  · exact ⟨t9, v9, by rw [show S (txt (dk 9)) = Str.ofString "ISO8859-15" from by decide +kernel]; rfl, rfl, h9⟩
theorem lj_init {D d1 d2 d3 lc e f ln lp lr : Addr} {o1 o2 o3 : Obj} {dvs pvs rvs : List Value} {te ue tn : Tok} {post : List (Addr × Obj)} {m : Str → Option Value} {P Q R : Prop}
    (hm : m (Str.ofString "names") = some (.ref ln) ∧ m (Str.ofString "counts") = some (.ref lc) ∧ m (Str.ofString "pieces") = some (.ref lp) ∧ m (Str.ofString "runs") = some (.ref lr))
    (hc : ∀ p ∈ (e, W.listOf [Value.ref f].toArray 0) :: (f, W.listOf [Value.str (Str.ofString "=") te, Value.int 1 ue].toArray 0) :: (ln, W.listOf [Value.str (Str.ofString "=") tn].toArray 0) :: post, p.1 < lc)
    (he : ∀ p ∈ (f, W.listOf [Value.str (Str.ofString "=") te, Value.int 1 ue].toArray 0) :: (ln, W.listOf [Value.str (Str.ofString "=") tn].toArray 0) :: post, p.1 < e)
    (hf : ∀ p ∈ (ln, W.listOf [Value.str (Str.ofString "=") tn].toArray 0) :: post, p.1 < f) (hn : ∀ p ∈ post, p.1 < ln)
    (hD : d1 < D ∧ d2 < D ∧ d3 < D ∧ lc < D ∧ e < D ∧ f < D ∧ ln < D ∧ P)
    (h1 : ∀ p ∈ (d2, o2) :: (d3, o3) :: (lc, W.listOf [Value.ref e].toArray 0) :: (e, W.listOf [Value.ref f].toArray 0) :: (f, W.listOf [Value.str (Str.ofString "=") te, Value.int 1 ue].toArray 0) :: (ln, W.listOf [Value.str (Str.ofString "=") tn].toArray 0) :: post, p.1 < d1)
    (h2 : d3 ≠ d2 ∧ lc ≠ d2 ∧ e ≠ d2 ∧ f ≠ d2 ∧ ln ≠ d2 ∧ Q) (h3 : lc < d3 ∧ e < d3 ∧ f < d3 ∧ ln < d3 ∧ R)
    (hP : (lp, W.listOf pvs.toArray 0) ∈ post) (hR : (lr, W.listOf rvs.toArray 0) ∈ post)
    (hdk : ∀ k, k < 10 → ∃ t v, pvs[k]? = some (.str (S (txt (dk k))) t) ∧ rvs[k]? = some v ∧ RunsIn post v (dk k)) :
    LJ D dvs 0 m ((D, W.listOf dvs.toArray 0) :: (d1, o1) :: (d2, o2) :: (d3, o3) :: (lc, W.listOf [Value.ref e].toArray 0) :: (e, W.listOf [Value.ref f].toArray 0) :: (f, W.listOf [Value.str (Str.ofString "=") te, Value.int 1 ue].toArray 0) :: (ln, W.listOf [Value.str (Str.ofString "=") tn].toArray 0) :: post) := by
  have hpost : ∀ p ∈ post, p ∈ (D, W.listOf dvs.toArray 0) :: (d1, o1) :: (d2, o2) :: (d3, o3) :: (e, W.listOf [Value.ref f].toArray 0) :: (f, W.listOf [Value.str (Str.ofString "=") te, Value.int 1 ue].toArray 0) :: post :=
    fun p hp => .tail _ (.tail _ (.tail _ (.tail _ (.tail _ (.tail _ hp)))))
  have qe : e < lc := hc _ (.head _)
  have qf : f < lc := hc _ (.tail _ (.head _))
  have qn : ln < lc := hc _ (.tail _ (.tail _ (.head _)))
  have qp : ∀ p ∈ post, p.1 < lc := fun p hp => hc p (.tail _ (.tail _ (.tail _ hp)))
  have re : ln < e := he _ (.tail _ (.head _))
  have rf : ln < f := hf _ (.head _)
  have s1 : lc < d1 := h1 _ (.tail _ (.tail _ (.head _)))
  have s2 : ln < d1 := h1 _ (.tail _ (.tail _ (.tail _ (.tail _ (.tail _ (.head _))))))
  obtain ⟨_, _, _, a4, _, _, a7, _⟩ := hD
  obtain ⟨_, b1, _, _, b5, _⟩ := h2
  obtain ⟨c1, _, _, c4, _⟩ := h3
  have hr : RunsIn ((D, W.listOf dvs.toArray 0) :: (d1, o1) :: (d2, o2) :: (d3, o3) :: (e, W.listOf [Value.ref f].toArray 0) :: (f, W.listOf [Value.str (Str.ofString "=") te, Value.int 1 ue].toArray 0) :: post) (.ref e) [(sEq, 1)] :=
    .mk (.tail _ (.tail _ (.tail _ (.tail _ (.head _))))) (.cons (.tail _ (.tail _ (.tail _ (.tail _ (.tail _ (.head _)))))) .nil)
  have hst := Stack.push (t := tn) .nil hr (wf_dk 2)
  rw [show S (txt [(sEq, 1)]) = Str.ofString "=" from by decide +kernel] at hst
  refine ⟨ln, lc, lp, lr, 0, 0, 0, 0, _, _, pvs, rvs, _, _, ?_, Nat.ne_of_lt qn, ?_, ?_, hm, .head _, hpost _ hP, hpost _ hR, dk_mono hpost hdk, hst, by simp, by rw [total_cons]; decide +kernel, by decide⟩
  · refine List.forall_mem_cons.mpr ⟨?_, List.forall_mem_cons.mpr ⟨?_, List.forall_mem_cons.mpr ⟨.head _, List.forall_mem_cons.mpr ⟨.tail _ (.head _), List.forall_mem_cons.mpr ⟨.tail _ (.tail _ (.head _)), List.forall_mem_cons.mpr ⟨.tail _ (.tail _ (.tail _ (.head _))), List.forall_mem_cons.mpr ⟨?_, List.forall_mem_cons.mpr ⟨?_, fun p hp => ?_⟩⟩⟩⟩⟩⟩⟩⟩
    · exact .tail _ (.tail _ (.tail _ (.tail _ (.tail _ (.tail _ (.tail _ (.head _)))))))
    · exact .tail _ (.tail _ (.tail _ (.tail _ (.head _))))
    · exact .tail _ (.tail _ (.tail _ (.tail _ (.tail _ (.head _)))))
    · exact .tail _ (.tail _ (.tail _ (.tail _ (.tail _ (.tail _ (.head _))))))
    · exact .tail _ (.tail _ (.tail _ (.tail _ (.tail _ (.tail _ (.tail _ (.tail _ hp)))))))
  · exact List.forall_mem_cons.mpr ⟨Nat.ne_of_gt a7, List.forall_mem_cons.mpr ⟨Nat.ne_of_gt s2, List.forall_mem_cons.mpr ⟨b5.symm, List.forall_mem_cons.mpr ⟨Nat.ne_of_gt c4, List.forall_mem_cons.mpr ⟨Nat.ne_of_gt re, List.forall_mem_cons.mpr ⟨Nat.ne_of_gt rf, fun p hp => Nat.ne_of_lt (hn p hp)⟩⟩⟩⟩⟩⟩
  · exact List.forall_mem_cons.mpr ⟨Nat.ne_of_gt a4, List.forall_mem_cons.mpr ⟨Nat.ne_of_gt s1, List.forall_mem_cons.mpr ⟨b1.symm, List.forall_mem_cons.mpr ⟨Nat.ne_of_gt c1, List.forall_mem_cons.mpr ⟨Nat.ne_of_lt qe, List.forall_mem_cons.mpr ⟨Nat.ne_of_lt qf, fun p hp => Nat.ne_of_lt (qp p hp)⟩⟩⟩⟩⟩⟩
theorem lj_start {D d1 d2 d3 lc e f ln a8 a9 a10 a11 a12 a13 a14 a15 a16 a17 a18 a19 a20 a21 a22 a23 a24 a25 a26 a27 a28 a29 a30 a31 a32 : Addr} {o1 o2 o3 : Obj} {dvs : List Value} {te ue tn t10 u10 t11 u11 t12 u12 t14 u14 t15 u15 t16 u16 t18 u18 t20 u20 t22 u22 t24 u24 t26 u26 t28 u28 t30 u30 q0 q1 q2 q3 q4 q5 q6 q7 q8 q9 : Tok} {m : Str → Option Value} {P Q R : Prop}
    (hm : m (Str.ofString "names") = some (.ref ln) ∧ m (Str.ofString "counts") = some (.ref lc) ∧ m (Str.ofString "pieces") = some (.ref a32) ∧ m (Str.ofString "runs") = some (.ref a8))
    (hc : ∀ p ∈ (e, W.listOf [Value.ref f].toArray 0) :: (f, W.listOf [Value.str (Str.ofString "=") te, Value.int 1 ue].toArray 0) :: (ln, W.listOf [Value.str (Str.ofString "=") tn].toArray 0) :: [(a8, W.listOf [Value.ref a31, Value.ref a29, Value.ref a27, Value.ref a25, Value.ref a23, Value.ref a21, Value.ref a19, Value.ref a17, Value.ref a13, Value.ref a9].toArray 0), (a9, W.listOf [Value.ref a12, Value.ref a11, Value.ref a10].toArray 0), (a10, W.listOf [Value.str (Str.ofString "15") t10, Value.int 1 u10].toArray 0), (a11, W.listOf [Value.str (Str.ofString "-") t11, Value.int 1 u11].toArray 0), (a12, W.listOf [Value.str (Str.ofString "ISO8859") t12, Value.int 1 u12].toArray 0), (a13, W.listOf [Value.ref a16, Value.ref a15, Value.ref a14].toArray 0), (a14, W.listOf [Value.str (Str.ofString "8") t14, Value.int 1 u14].toArray 0), (a15, W.listOf [Value.str (Str.ofString "-") t15, Value.int 1 u15].toArray 0), (a16, W.listOf [Value.str (Str.ofString "UTF") t16, Value.int 1 u16].toArray 0), (a17, W.listOf [Value.ref a18].toArray 0), (a18, W.listOf [Value.str (Str.ofString "euro") t18, Value.int 1 u18].toArray 0), (a19, W.listOf [Value.ref a20].toArray 0), (a20, W.listOf [Value.str (Str.ofString "@") t20, Value.int 1 u20].toArray 0), (a21, W.listOf [Value.ref a22].toArray 0), (a22, W.listOf [Value.str (Str.ofString ".") t22, Value.int 2 u22].toArray 0), (a23, W.listOf [Value.ref a24].toArray 0), (a24, W.listOf [Value.str (Str.ofString ".") t24, Value.int 1 u24].toArray 0), (a25, W.listOf [Value.ref a26].toArray 0), (a26, W.listOf [Value.str (Str.ofString "=") t26, Value.int 2 u26].toArray 0), (a27, W.listOf [Value.ref a28].toArray 0), (a28, W.listOf [Value.str (Str.ofString "=") t28, Value.int 1 u28].toArray 0), (a29, W.listOf [Value.ref a30].toArray 0), (a30, W.listOf [Value.str (Str.ofString "=") t30, Value.int 3 u30].toArray 0), (a31, W.listOf [].toArray 0), (a32, W.listOf [Value.str (Str.ofString "") q0, Value.str (Str.ofString "===") q1, Value.str (Str.ofString "=") q2, Value.str (Str.ofString "==") q3, Value.str (Str.ofString ".") q4, Value.str (Str.ofString "..") q5, Value.str (Str.ofString "@") q6, Value.str (Str.ofString "euro") q7, Value.str (Str.ofString "UTF-8") q8, Value.str (Str.ofString "ISO8859-15") q9].toArray 0)], p.1 < lc)
    (he : ∀ p ∈ (f, W.listOf [Value.str (Str.ofString "=") te, Value.int 1 ue].toArray 0) :: (ln, W.listOf [Value.str (Str.ofString "=") tn].toArray 0) :: [(a8, W.listOf [Value.ref a31, Value.ref a29, Value.ref a27, Value.ref a25, Value.ref a23, Value.ref a21, Value.ref a19, Value.ref a17, Value.ref a13, Value.ref a9].toArray 0), (a9, W.listOf [Value.ref a12, Value.ref a11, Value.ref a10].toArray 0), (a10, W.listOf [Value.str (Str.ofString "15") t10, Value.int 1 u10].toArray 0), (a11, W.listOf [Value.str (Str.ofString "-") t11, Value.int 1 u11].toArray 0), (a12, W.listOf [Value.str (Str.ofString "ISO8859") t12, Value.int 1 u12].toArray 0), (a13, W.listOf [Value.ref a16, Value.ref a15, Value.ref a14].toArray 0), (a14, W.listOf [Value.str (Str.ofString "8") t14, Value.int 1 u14].toArray 0), (a15, W.listOf [Value.str (Str.ofString "-") t15, Value.int 1 u15].toArray 0), (a16, W.listOf [Value.str (Str.ofString "UTF") t16, Value.int 1 u16].toArray 0), (a17, W.listOf [Value.ref a18].toArray 0), (a18, W.listOf [Value.str (Str.ofString "euro") t18, Value.int 1 u18].toArray 0), (a19, W.listOf [Value.ref a20].toArray 0), (a20, W.listOf [Value.str (Str.ofString "@") t20, Value.int 1 u20].toArray 0), (a21, W.listOf [Value.ref a22].toArray 0), (a22, W.listOf [Value.str (Str.ofString ".") t22, Value.int 2 u22].toArray 0), (a23, W.listOf [Value.ref a24].toArray 0), (a24, W.listOf [Value.str (Str.ofString ".") t24, Value.int 1 u24].toArray 0), (a25, W.listOf [Value.ref a26].toArray 0), (a26, W.listOf [Value.str (Str.ofString "=") t26, Value.int 2 u26].toArray 0), (a27, W.listOf [Value.ref a28].toArray 0), (a28, W.listOf [Value.str (Str.ofString "=") t28, Value.int 1 u28].toArray 0), (a29, W.listOf [Value.ref a30].toArray 0), (a30, W.listOf [Value.str (Str.ofString "=") t30, Value.int 3 u30].toArray 0), (a31, W.listOf [].toArray 0), (a32, W.listOf [Value.str (Str.ofString "") q0, Value.str (Str.ofString "===") q1, Value.str (Str.ofString "=") q2, Value.str (Str.ofString "==") q3, Value.str (Str.ofString ".") q4, Value.str (Str.ofString "..") q5, Value.str (Str.ofString "@") q6, Value.str (Str.ofString "euro") q7, Value.str (Str.ofString "UTF-8") q8, Value.str (Str.ofString "ISO8859-15") q9].toArray 0)], p.1 < e)
    (hf : ∀ p ∈ (ln, W.listOf [Value.str (Str.ofString "=") tn].toArray 0) :: [(a8, W.listOf [Value.ref a31, Value.ref a29, Value.ref a27, Value.ref a25, Value.ref a23, Value.ref a21, Value.ref a19, Value.ref a17, Value.ref a13, Value.ref a9].toArray 0), (a9, W.listOf [Value.ref a12, Value.ref a11, Value.ref a10].toArray 0), (a10, W.listOf [Value.str (Str.ofString "15") t10, Value.int 1 u10].toArray 0), (a11, W.listOf [Value.str (Str.ofString "-") t11, Value.int 1 u11].toArray 0), (a12, W.listOf [Value.str (Str.ofString "ISO8859") t12, Value.int 1 u12].toArray 0), (a13, W.listOf [Value.ref a16, Value.ref a15, Value.ref a14].toArray 0), (a14, W.listOf [Value.str (Str.ofString "8") t14, Value.int 1 u14].toArray 0), (a15, W.listOf [Value.str (Str.ofString "-") t15, Value.int 1 u15].toArray 0), (a16, W.listOf [Value.str (Str.ofString "UTF") t16, Value.int 1 u16].toArray 0), (a17, W.listOf [Value.ref a18].toArray 0), (a18, W.listOf [Value.str (Str.ofString "euro") t18, Value.int 1 u18].toArray 0), (a19, W.listOf [Value.ref a20].toArray 0), (a20, W.listOf [Value.str (Str.ofString "@") t20, Value.int 1 u20].toArray 0), (a21, W.listOf [Value.ref a22].toArray 0), (a22, W.listOf [Value.str (Str.ofString ".") t22, Value.int 2 u22].toArray 0), (a23, W.listOf [Value.ref a24].toArray 0), (a24, W.listOf [Value.str (Str.ofString ".") t24, Value.int 1 u24].toArray 0), (a25, W.listOf [Value.ref a26].toArray 0), (a26, W.listOf [Value.str (Str.ofString "=") t26, Value.int 2 u26].toArray 0), (a27, W.listOf [Value.ref a28].toArray 0), (a28, W.listOf [Value.str (Str.ofString "=") t28, Value.int 1 u28].toArray 0), (a29, W.listOf [Value.ref a30].toArray 0), (a30, W.listOf [Value.str (Str.ofString "=") t30, Value.int 3 u30].toArray 0), (a31, W.listOf [].toArray 0), (a32, W.listOf [Value.str (Str.ofString "") q0, Value.str (Str.ofString "===") q1, Value.str (Str.ofString "=") q2, Value.str (Str.ofString "==") q3, Value.str (Str.ofString ".") q4, Value.str (Str.ofString "..") q5, Value.str (Str.ofString "@") q6, Value.str (Str.ofString "euro") q7, Value.str (Str.ofString "UTF-8") q8, Value.str (Str.ofString "ISO8859-15") q9].toArray 0)], p.1 < f) (hn : ∀ p ∈ [(a8, W.listOf [Value.ref a31, Value.ref a29, Value.ref a27, Value.ref a25, Value.ref a23, Value.ref a21, Value.ref a19, Value.ref a17, Value.ref a13, Value.ref a9].toArray 0), (a9, W.listOf [Value.ref a12, Value.ref a11, Value.ref a10].toArray 0), (a10, W.listOf [Value.str (Str.ofString "15") t10, Value.int 1 u10].toArray 0), (a11, W.listOf [Value.str (Str.ofString "-") t11, Value.int 1 u11].toArray 0), (a12, W.listOf [Value.str (Str.ofString "ISO8859") t12, Value.int 1 u12].toArray 0), (a13, W.listOf [Value.ref a16, Value.ref a15, Value.ref a14].toArray 0), (a14, W.listOf [Value.str (Str.ofString "8") t14, Value.int 1 u14].toArray 0), (a15, W.listOf [Value.str (Str.ofString "-") t15, Value.int 1 u15].toArray 0), (a16, W.listOf [Value.str (Str.ofString "UTF") t16, Value.int 1 u16].toArray 0), (a17, W.listOf [Value.ref a18].toArray 0), (a18, W.listOf [Value.str (Str.ofString "euro") t18, Value.int 1 u18].toArray 0), (a19, W.listOf [Value.ref a20].toArray 0), (a20, W.listOf [Value.str (Str.ofString "@") t20, Value.int 1 u20].toArray 0), (a21, W.listOf [Value.ref a22].toArray 0), (a22, W.listOf [Value.str (Str.ofString ".") t22, Value.int 2 u22].toArray 0), (a23, W.listOf [Value.ref a24].toArray 0), (a24, W.listOf [Value.str (Str.ofString ".") t24, Value.int 1 u24].toArray 0), (a25, W.listOf [Value.ref a26].toArray 0), (a26, W.listOf [Value.str (Str.ofString "=") t26, Value.int 2 u26].toArray 0), (a27, W.listOf [Value.ref a28].toArray 0), (a28, W.listOf [Value.str (Str.ofString "=") t28, Value.int 1 u28].toArray 0), (a29, W.listOf [Value.ref a30].toArray 0), (a30, W.listOf [Value.str (Str.ofString "=") t30, Value.int 3 u30].toArray 0), (a31, W.listOf [].toArray 0), (a32, W.listOf [Value.str (Str.ofString "") q0, Value.str (Str.ofString "===") q1, Value.str (Str.ofString "=") q2, Value.str (Str.ofString "==") q3, Value.str (Str.ofString ".") q4, Value.str (Str.ofString "..") q5, Value.str (Str.ofString "@") q6, Value.str (Str.ofString "euro") q7, Value.str (Str.ofString "UTF-8") q8, Value.str (Str.ofString "ISO8859-15") q9].toArray 0)], p.1 < ln)
    (hD : d1 < D ∧ d2 < D ∧ d3 < D ∧ lc < D ∧ e < D ∧ f < D ∧ ln < D ∧ P)
    (h1 : ∀ p ∈ (d2, o2) :: (d3, o3) :: (lc, W.listOf [Value.ref e].toArray 0) :: (e, W.listOf [Value.ref f].toArray 0) :: (f, W.listOf [Value.str (Str.ofString "=") te, Value.int 1 ue].toArray 0) :: (ln, W.listOf [Value.str (Str.ofString "=") tn].toArray 0) :: [(a8, W.listOf [Value.ref a31, Value.ref a29, Value.ref a27, Value.ref a25, Value.ref a23, Value.ref a21, Value.ref a19, Value.ref a17, Value.ref a13, Value.ref a9].toArray 0), (a9, W.listOf [Value.ref a12, Value.ref a11, Value.ref a10].toArray 0), (a10, W.listOf [Value.str (Str.ofString "15") t10, Value.int 1 u10].toArray 0), (a11, W.listOf [Value.str (Str.ofString "-") t11, Value.int 1 u11].toArray 0), (a12, W.listOf [Value.str (Str.ofString "ISO8859") t12, Value.int 1 u12].toArray 0), (a13, W.listOf [Value.ref a16, Value.ref a15, Value.ref a14].toArray 0), (a14, W.listOf [Value.str (Str.ofString "8") t14, Value.int 1 u14].toArray 0), (a15, W.listOf [Value.str (Str.ofString "-") t15, Value.int 1 u15].toArray 0), (a16, W.listOf [Value.str (Str.ofString "UTF") t16, Value.int 1 u16].toArray 0), (a17, W.listOf [Value.ref a18].toArray 0), (a18, W.listOf [Value.str (Str.ofString "euro") t18, Value.int 1 u18].toArray 0), (a19, W.listOf [Value.ref a20].toArray 0), (a20, W.listOf [Value.str (Str.ofString "@") t20, Value.int 1 u20].toArray 0), (a21, W.listOf [Value.ref a22].toArray 0), (a22, W.listOf [Value.str (Str.ofString ".") t22, Value.int 2 u22].toArray 0), (a23, W.listOf [Value.ref a24].toArray 0), (a24, W.listOf [Value.str (Str.ofString ".") t24, Value.int 1 u24].toArray 0), (a25, W.listOf [Value.ref a26].toArray 0), (a26, W.listOf [Value.str (Str.ofString "=") t26, Value.int 2 u26].toArray 0), (a27, W.listOf [Value.ref a28].toArray 0), (a28, W.listOf [Value.str (Str.ofString "=") t28, Value.int 1 u28].toArray 0), (a29, W.listOf [Value.ref a30].toArray 0), (a30, W.listOf [Value.str (Str.ofString "=") t30, Value.int 3 u30].toArray 0), (a31, W.listOf [].toArray 0), (a32, W.listOf [Value.str (Str.ofString "") q0, Value.str (Str.ofString "===") q1, Value.str (Str.ofString "=") q2, Value.str (Str.ofString "==") q3, Value.str (Str.ofString ".") q4, Value.str (Str.ofString "..") q5, Value.str (Str.ofString "@") q6, Value.str (Str.ofString "euro") q7, Value.str (Str.ofString "UTF-8") q8, Value.str (Str.ofString "ISO8859-15") q9].toArray 0)], p.1 < d1)
    (h2 : d3 ≠ d2 ∧ lc ≠ d2 ∧ e ≠ d2 ∧ f ≠ d2 ∧ ln ≠ d2 ∧ Q) (h3 : lc < d3 ∧ e < d3 ∧ f < d3 ∧ ln < d3 ∧ R) :
    LJ D dvs 0 m ((D, W.listOf dvs.toArray 0) :: (d1, o1) :: (d2, o2) :: (d3, o3) :: (lc, W.listOf [Value.ref e].toArray 0) :: (e, W.listOf [Value.ref f].toArray 0) :: (f, W.listOf [Value.str (Str.ofString "=") te, Value.int 1 ue].toArray 0) :: (ln, W.listOf [Value.str (Str.ofString "=") tn].toArray 0) :: [(a8, W.listOf [Value.ref a31, Value.ref a29, Value.ref a27, Value.ref a25, Value.ref a23, Value.ref a21, Value.ref a19, Value.ref a17, Value.ref a13, Value.ref a9].toArray 0), (a9, W.listOf [Value.ref a12, Value.ref a11, Value.ref a10].toArray 0), (a10, W.listOf [Value.str (Str.ofString "15") t10, Value.int 1 u10].toArray 0), (a11, W.listOf [Value.str (Str.ofString "-") t11, Value.int 1 u11].toArray 0), (a12, W.listOf [Value.str (Str.ofString "ISO8859") t12, Value.int 1 u12].toArray 0), (a13, W.listOf [Value.ref a16, Value.ref a15, Value.ref a14].toArray 0), (a14, W.listOf [Value.str (Str.ofString "8") t14, Value.int 1 u14].toArray 0), (a15, W.listOf [Value.str (Str.ofString "-") t15, Value.int 1 u15].toArray 0), (a16, W.listOf [Value.str (Str.ofString "UTF") t16, Value.int 1 u16].toArray 0), (a17, W.listOf [Value.ref a18].toArray 0), (a18, W.listOf [Value.str (Str.ofString "euro") t18, Value.int 1 u18].toArray 0), (a19, W.listOf [Value.ref a20].toArray 0), (a20, W.listOf [Value.str (Str.ofString "@") t20, Value.int 1 u20].toArray 0), (a21, W.listOf [Value.ref a22].toArray 0), (a22, W.listOf [Value.str (Str.ofString ".") t22, Value.int 2 u22].toArray 0), (a23, W.listOf [Value.ref a24].toArray 0), (a24, W.listOf [Value.str (Str.ofString ".") t24, Value.int 1 u24].toArray 0), (a25, W.listOf [Value.ref a26].toArray 0), (a26, W.listOf [Value.str (Str.ofString "=") t26, Value.int 2 u26].toArray 0), (a27, W.listOf [Value.ref a28].toArray 0), (a28, W.listOf [Value.str (Str.ofString "=") t28, Value.int 1 u28].toArray 0), (a29, W.listOf [Value.ref a30].toArray 0), (a30, W.listOf [Value.str (Str.ofString "=") t30, Value.int 3 u30].toArray 0), (a31, W.listOf [].toArray 0), (a32, W.listOf [Value.str (Str.ofString "") q0, Value.str (Str.ofString "===") q1, Value.str (Str.ofString "=") q2, Value.str (Str.ofString "==") q3, Value.str (Str.ofString ".") q4, Value.str (Str.ofString "..") q5, Value.str (Str.ofString "@") q6, Value.str (Str.ofString "euro") q7, Value.str (Str.ofString "UTF-8") q8, Value.str (Str.ofString "ISO8859-15") q9].toArray 0)]) := by
  refine lj_init hm hc he hf hn hD h1 h2 h3 (.tail _ (.tail _ (.tail _ (.tail _ (.tail _ (.tail _ (.tail _ (.tail _ (.tail _ (.tail _ (.tail _ (.tail _ (.tail _ (.tail _ (.tail _ (.tail _ (.tail _ (.tail _ (.tail _ (.tail _ (.tail _ (.tail _ (.tail _ (.tail _ (.head _))))))))))))))))))))))))) (.head _) (dk_all ?d0 ?d1 ?d2 ?d3 ?d4 ?d5 ?d6 ?d7 ?d8 ?d9)
  · exact .mk (.tail _ (.tail _ (.tail _ (.tail _ (.tail _ (.tail _ (.tail _ (.tail _ (.tail _ (.tail _ (.tail _ (.tail _ (.tail _ (.tail _ (.tail _ (.tail _ (.tail _ (.tail _ (.tail _ (.tail _ (.tail _ (.tail _ (.tail _ (.head _)))))))))))))))))))))))) (.nil)
  · exact .mk (.tail _ (.tail _ (.tail _ (.tail _ (.tail _ (.tail _ (.tail _ (.tail _ (.tail _ (.tail _ (.tail _ (.tail _ (.tail _ (.tail _ (.tail _ (.tail _ (.tail _ (.tail _ (.tail _ (.tail _ (.tail _ (.head _)))))))))))))))))))))) (.cons (.tail _ (.tail _ (.tail _ (.tail _ (.tail _ (.tail _ (.tail _ (.tail _ (.tail _ (.tail _ (.tail _ (.tail _ (.tail _ (.tail _ (.tail _ (.tail _ (.tail _ (.tail _ (.tail _ (.tail _ (.tail _ (.tail _ (.head _))))))))))))))))))))))) (.nil))
  · exact .mk (.tail _ (.tail _ (.tail _ (.tail _ (.tail _ (.tail _ (.tail _ (.tail _ (.tail _ (.tail _ (.tail _ (.tail _ (.tail _ (.tail _ (.tail _ (.tail _ (.tail _ (.tail _ (.tail _ (.head _)))))))))))))))))))) (.cons (.tail _ (.tail _ (.tail _ (.tail _ (.tail _ (.tail _ (.tail _ (.tail _ (.tail _ (.tail _ (.tail _ (.tail _ (.tail _ (.tail _ (.tail _ (.tail _ (.tail _ (.tail _ (.tail _ (.tail _ (.head _))))))))))))))))))))) (.nil))
  · exact .mk (.tail _ (.tail _ (.tail _ (.tail _ (.tail _ (.tail _ (.tail _ (.tail _ (.tail _ (.tail _ (.tail _ (.tail _ (.tail _ (.tail _ (.tail _ (.tail _ (.tail _ (.head _)))))))))))))))))) (.cons (.tail _ (.tail _ (.tail _ (.tail _ (.tail _ (.tail _ (.tail _ (.tail _ (.tail _ (.tail _ (.tail _ (.tail _ (.tail _ (.tail _ (.tail _ (.tail _ (.tail _ (.tail _ (.head _))))))))))))))))))) (.nil))
  · exact .mk (.tail _ (.tail _ (.tail _ (.tail _ (.tail _ (.tail _ (.tail _ (.tail _ (.tail _ (.tail _ (.tail _ (.tail _ (.tail _ (.tail _ (.tail _ (.head _)))))))))))))))) (.cons (.tail _ (.tail _ (.tail _ (.tail _ (.tail _ (.tail _ (.tail _ (.tail _ (.tail _ (.tail _ (.tail _ (.tail _ (.tail _ (.tail _ (.tail _ (.tail _ (.head _))))))))))))))))) (.nil))
  · exact .mk (.tail _ (.tail _ (.tail _ (.tail _ (.tail _ (.tail _ (.tail _ (.tail _ (.tail _ (.tail _ (.tail _ (.tail _ (.tail _ (.head _)))))))))))))) (.cons (.tail _ (.tail _ (.tail _ (.tail _ (.tail _ (.tail _ (.tail _ (.tail _ (.tail _ (.tail _ (.tail _ (.tail _ (.tail _ (.tail _ (.head _))))))))))))))) (.nil))
  · exact .mk (.tail _ (.tail _ (.tail _ (.tail _ (.tail _ (.tail _ (.tail _ (.tail _ (.tail _ (.tail _ (.tail _ (.head _)))))))))))) (.cons (.tail _ (.tail _ (.tail _ (.tail _ (.tail _ (.tail _ (.tail _ (.tail _ (.tail _ (.tail _ (.tail _ (.tail _ (.head _))))))))))))) (.nil))
  · exact .mk (.tail _ (.tail _ (.tail _ (.tail _ (.tail _ (.tail _ (.tail _ (.tail _ (.tail _ (.head _)))))))))) (.cons (.tail _ (.tail _ (.tail _ (.tail _ (.tail _ (.tail _ (.tail _ (.tail _ (.tail _ (.tail _ (.head _))))))))))) (.nil))
  · exact .mk (.tail _ (.tail _ (.tail _ (.tail _ (.tail _ (.head _)))))) (.cons (.tail _ (.tail _ (.tail _ (.tail _ (.tail _ (.tail _ (.tail _ (.tail _ (.head _))))))))) (.cons (.tail _ (.tail _ (.tail _ (.tail _ (.tail _ (.tail _ (.tail _ (.head _)))))))) (.cons (.tail _ (.tail _ (.tail _ (.tail _ (.tail _ (.tail _ (.head _))))))) (.nil))))
  · exact .mk (.tail _ (.head _)) (.cons (.tail _ (.tail _ (.tail _ (.tail _ (.head _))))) (.cons (.tail _ (.tail _ (.tail _ (.head _)))) (.cons (.tail _ (.tail _ (.head _))) (.nil))))
section
local macro_rules | `(tactic| k_mem) => `(tactic| with_reducible (first | exact List.Mem.head _ | (refine' List.mem_cons_of_mem _ ?_; k_mem) | assumption | (refine' List.mem_append_left _ ?_; k_mem) | (refine' List.mem_append_right _ ?_; k_mem)))
local macro_rules | `(tactic| kd_subs) => `(tactic| first | exact fun _ h9 => h9 | (refine sub_consL ?ks1 ?ks2; (case ks1 => k_mem); (case ks2 => kd_subs)) | (refine sub_appL ?ks1 ?ks2; (case ks1 => kd_subs); (case ks2 => kd_subs)) | (intro p9 h9; k_mem))
local macro_rules | `(tactic| kd_in) => `(tactic| first
  | with_reducible assumption
  | exact DatIn.none | exact DatIn.bool _ | exact DatIn.int _ _ | exact DatIn.str _ _
  | (refine DatIn.mono ?kdM (by with_reducible assumption); (case kdM => kd_subs))
  | (refine' DatIn.list (by k_mem) ?kdT; (case kdT => kd_all))
  | fail "my kd_in")
local macro_rules | `(tactic| kd_all) => `(tactic| first
  | with_reducible assumption
  | exact DatAll.nil
  | (refine DatAll.mono ?kdM (by with_reducible assumption); (case kdM => kd_subs))
  | (refine' DatAll.cons ?kd1 ?kd2; (case kd1 => kd_in); (case kd2 => kd_all))
  | (refine' DatAll.append ?kd1 ?kd2; (case kd1 => kd_all); (case kd2 => kd_all))
  | fail "my kd_all")
local macro_rules | `(tactic| kqd_ok) => `(tactic| first
  | assumption
  | exact List.forall_mem_nil _
  | (refine List.forall_mem_cons.mpr ⟨?kqo1, ?kqo2⟩; (case kqo1 => first | rfl | decide | kernel_rfl!); (case kqo2 => kqd_ok)))
local macro_rules | `(tactic| kl_room) => `(tactic| ((simp only [List.length_append, List.length_cons, List.length_nil, List.length_map, List.length_replicate, List.length_dropLast, PySem.sizeLine_eq]); omega))
local macro_rules | `(tactic| walk_at "compareOp NotEq ref ref") => `(tactic| (k_here; (with_reducible show wpAny _ _ (compareOp CmpOp.NotEq (Value.ref _) (Value.ref _)) _ _ _); k_dflt (first
  | (refine' my_ne (r := true) ?N ?a ?b ?c ?d ?f ?g ?i ?e ?_; (case N => k_asm); (case a => law_purse 400000 => k_mem); (case b => law_purse 400000 => k_mem); (case c => law_purse 400000 => kd_all); (case d => law_purse 400000 => kd_all); (case f => law_purse 400000 => kqd_ok); (case g => law_purse 400000 => kqd_ok); (case i => ke_room); (case e => first | (simp; done) | exact iff_of_true (by assumption) rfl | exact iff_of_false (fun q9 => q9 rfl) Bool.false_ne_true); k_whole)
  | (refine' my_ne (r := false) ?N ?a ?b ?c ?d ?f ?g ?i ?e ?_; (case N => k_asm); (case a => law_purse 400000 => k_mem); (case b => law_purse 400000 => k_mem); (case c => law_purse 400000 => kd_all); (case d => law_purse 400000 => kd_all); (case f => law_purse 400000 => kqd_ok); (case g => law_purse 400000 => kqd_ok); (case i => ke_room); (case e => first | (simp; done) | exact iff_of_true (by assumption) rfl | exact iff_of_false (fun q9 => q9 rfl) Bool.false_ne_true); k_whole))))
local macro_rules | `(tactic| walk_at "compareOp Eq ref ref") => `(tactic| (k_here; (with_reducible show wpAny _ _ (compareOp CmpOp.Eq (Value.ref _) (Value.ref _)) _ _ _); k_dflt (first
  | (refine' my_eq (r := true) ?N ?a ?b ?c ?d ?f ?g ?i ?e ?_; (case N => k_asm); (case a => law_purse 400000 => k_mem); (case b => law_purse 400000 => k_mem); (case c => law_purse 400000 => kd_all); (case d => law_purse 400000 => kd_all); (case f => law_purse 400000 => kqd_ok); (case g => law_purse 400000 => kqd_ok); (case i => ke_room); (case e => first | (simp; done) | exact iff_of_true (by assumption) rfl | exact iff_of_false (fun q9 => q9 rfl) Bool.false_ne_true); k_whole)
  | (refine' my_eq (r := false) ?N ?a ?b ?c ?d ?f ?g ?i ?e ?_; (case N => k_asm); (case a => law_purse 400000 => k_mem); (case b => law_purse 400000 => k_mem); (case c => law_purse 400000 => kd_all); (case d => law_purse 400000 => kd_all); (case f => law_purse 400000 => kqd_ok); (case g => law_purse 400000 => kqd_ok); (case i => ke_room); (case e => first | (simp; done) | exact iff_of_true (by assumption) rfl | exact iff_of_false (fun q9 => q9 rfl) Bool.false_ne_true); k_whole))))
local macro_rules | `(tactic| walk_at "compareOp In") => `(tactic| (k_here; (with_reducible show wpAny _ _ (compareOp CmpOp.In (Value.ref _) (Value.ref _)) _ _ _); k_dflt (first
  | (refine' my_in (r := true) ?N ?a ?c ?d ?f ?g ?i ?e ?_; (case N => k_asm); (case a => law_purse 400000 => k_mem); (case c => law_purse 400000 => kd_all); (case d => law_purse 400000 => kd_in); (case f => law_purse 400000 => kqd_ok); (case g => first | assumption | rfl); (case i => ke_room); (case e => exact iff_of_true (by assumption) rfl); k_whole)
  | (refine' my_in (r := false) ?N ?a ?c ?d ?f ?g ?i ?e ?_; (case N => k_asm); (case a => law_purse 400000 => k_mem); (case c => law_purse 400000 => kd_all); (case d => law_purse 400000 => kd_in); (case f => law_purse 400000 => kqd_ok); (case g => first | assumption | rfl); (case i => ke_room); (case e => exact iff_of_false (by assumption) Bool.false_ne_true); k_whole))))
local macro_rules | `(tactic| walk_at "binaryOp Add ref ref") => `(tactic| (k_here; (with_reducible show wpAny _ _ (binaryOp Operator.Add (Value.ref _) (Value.ref _)) _ _ _); k_dflt (refine' my_add ?F ?N ?a ?b ?_ ?z; (case F => k_asm); (case N => k_asm); (case a => law_purse 400000 => k_mem); (case b => law_purse 400000 => k_mem); (case z => kl_room)); intro D' h' F' N' l1))
local macro_rules | `(tactic| walk_at "subscriptTail Name UnaryOp ref int") => `(tactic| (k_here; (with_reducible show wpAny _ _ (subscriptTail _ _ (Value.ref _) (Value.int _ _)) _ _ _); k_dflt (refine' my_last ?N ?a ?_ ?s; (case N => k_asm); (case a => law_purse 400000 => k_mem); (case s => with_unfolding_all rfl); k_whole)))
local macro_rules | `(tactic| walk_at "subscriptTail") => `(tactic| (k_here; (with_reducible show wpAny _ _ (subscriptTail _ _ (Value.ref _) (Value.int _ _)) _ _ _); k_dflt (refine' my_item ?N ?a ?p ?q ?x ?_ ?s; (case N => k_asm); (case a => law_purse 400000 => k_mem); (case p => first | assumption | decide); (case q => first | decide | omega); (case x => first | assumption | rfl); (case s => with_unfolding_all rfl); k_whole)))
local macro_rules | `(tactic| walk_at "subscriptTail Name Slice ref ref") => `(tactic| (k_here; (with_reducible show wpAny _ _ (subscriptTail _ (PySem.Expr.Slice _ _ none _) (Value.ref _) (Value.ref _)) _ _ _); k_dflt (refine' my_slice ?F ?N ?a ?p ?q ?e ?_ ?s ?t ?z; (case F => k_asm); (case N => k_asm); (case a => law_purse 400000 => k_mem); (case p => kmk_part); (case q => kmk_part); (case e => first | exact pick_init | exact pick_tail | exact pick_from | exact pick_dropLast); (case s => with_unfolding_all rfl); (case t => kmk_pure); (case z => kl_room)); intro D' h' F' N' l1))
local macro_rules | `(tactic| walk_at "newList") => `(tactic| (k_here; k_dflt (refine' my_newList ?F ?N ?_ ?z; (case F => k_asm); (case N => k_asm); (case z => kl_room)); intro D' h' F' N' l1))
local macro_rules | `(tactic| ktr_rel) => `(tactic| first
  | exact Ext.base
  | (refine' Ext.cons ?kr1 ?kr2; (case kr1 => first | assumption | (refine lt_ofAll (by assumption) ?_; kd_subs) | (refine lt_ofAllS (by assumption) ?_; kd_subs) | (refine ne_ofOff (by assumption) ?_; kd_subs) | (refine ne_ofAll (by assumption) ?_; kd_subs)); (case kr2 => ktr_rel))
  | (refine' Ext.app ?kr1; (case kr1 => ktr_rel))
  | (refine ord_of (by assumption) ?_; kd_subs)
  | (refine' ord_app ?kr1 ?kr2; (case kr1 => ktr_rel); (case kr2 => ktr_rel)))
local macro_rules | `(tactic| tb_rel) => `(tactic| first
  | with_reducible assumption
  | (refine RunsIn.mono ?km1 (by with_reducible assumption); (case km1 => kd_subs))
  | (refine' RunsIn.mk (by k_mem) ?km2; (case km2 => tb_rel))
  | exact RunsAll.nil
  | (refine RunsAll.mono ?km1 (by with_reducible assumption); (case km1 => kd_subs))
  | (refine' RunsAll.cons (by k_mem) ?km2; (case km2 => tb_rel))
  | (refine' RunsAll.append ?km2 ?km3; (case km2 => tb_rel); (case km3 => tb_rel)))
local macro_rules | `(tactic| walk_at "call builtin:len cons nil") => `(tactic| (k_here; (with_reducible show wpAny _ _ (call (Value.builtin _) [Value.ref _]) _ _ _); k_dflt (refine' my_len ?N ?a ?z ?_; (case N => k_asm); (case a => law_purse 400000 => k_mem); (case z => first | omega | ((simp only [List.length_append, List.length_cons, List.length_nil]); omega)); k_whole); intro t' tk'))
local macro_rules | `(tactic| ktr_rel) => `(tactic| first
  | (refine' Tn.cons ?kr1 ?kr2; (case kr1 => (refine lt_ofAll (by assumption) ?_; kd_subs)); (case kr2 => ktr_rel))
  | (refine Tn.base ?kr1 ?kr2; (case kr1 => assumption); (case kr2 => assumption)))
local macro_rules | `(tactic| k_qdec) => `(tactic| decide +kernel)
local macro_rules | `(tactic| walk_at "exec For Name BinOp cons nil") => `(tactic| (k_here; (rename Fr _ _ _ _ => lF'); k_dflt (refine For_turns lF' ?_)))
set_option maxRecDepth 100000 in
set_option maxHeartbeats 8000000 in
theorem law_holds : PySem.Challenge.rw_il0204_01.Holds := by
  refine holds_law hd.said (fun said => ?_)
  refine holds_open (q := hd.view_39) (loose := [Str.ofString "locale_encoding_alias", Str.ofString "EXACT_TOKEN_TYPES"]) (Xt := fun s => xlAt hd.view_39 [] s && recOk (RowW.records (OpenRow.toRowW (OpenLaw.row PySem.Challenge.rw_il0204_01))) s) (XP := XL hd.view_39 []) (Yf := Hook.obs (kHook hd.heap_39 [2, 3, 6, 15, 17, 18, 20, 21, 22, 24, 25, 27, 28, 29, 31, 32, 34, 35, 36, 38, 39, 41, 42, 43, 233, 236, 239, 240, 241, 243, 244, 246, 247, 248, 250, 251, 253, 254, 255, 258, 259, 260, 262, 263, 265, 266, 267, 270, 271] (fun _ => by kernel_rfl))) (Ya := Hook.val (kHook hd.heap_39 [2, 3, 6, 15, 17, 18, 20, 21, 22, 24, 25, 27, 28, 29, 31, 32, 34, 35, 36, 38, 39, 41, 42, 43, 233, 236, 239, 240, 241, 243, 244, 246, 247, 248, 250, 251, 253, 254, 255, 258, 259, 260, 262, 263, 265, 266, 267, 270, 271] (fun _ => by kernel_rfl))) (YP := Hook.says (kHook hd.heap_39 [2, 3, 6, 15, 17, 18, 20, 21, 22, 24, 25, 27, 28, 29, 31, 32, 34, 35, 36, 38, 39, 41, 42, 43, 233, 236, 239, 240, 241, 243, 244, 246, 247, 248, 250, 251, 253, 254, 255, 258, 259, 260, 262, 263, 265, 266, 267, 270, 271] (fun _ => by kernel_rfl))) (N := 22488) ?hl (Hook.of (kHook hd.heap_39 [2, 3, 6, 15, 17, 18, 20, 21, 22, 24, 25, 27, 28, 29, 31, 32, 34, 35, 36, 38, 39, 41, 42, 43, 233, 236, 239, 240, 241, 243, 244, 246, 247, 248, 250, 251, 253, 254, 255, 258, 259, 260, 262, 263, 265, 266, 267, 270, 271] (fun _ => by kernel_rfl))) (Hook.keeps (kHook hd.heap_39 [2, 3, 6, 15, 17, 18, 20, 21, 22, 24, 25, 27, 28, 29, 31, 32, 34, 35, 36, 38, 39, 41, 42, 43, 233, 236, 239, 240, 241, 243, 244, 246, 247, 248, 250, 251, 253, 254, 255, 258, 259, 260, 262, 263, 265, 266, 267, 270, 271] (fun _ => by kernel_rfl))) (fun s e => xl_of s (Bool.and_eq_true_iff.mp e).1) XL.keeps (by rfl) (by rfl) (by rfl) (fun s e => recFacts_of (Bool.and_eq_true_iff.mp e).2) (by rfl) said hd.p_ok ⟨rfl, rfl, rfl, rfl, rfl, hd.p_whole⟩ ?hw ?hc
  (case hl => exact hd.left)
  (case hw => exact ⟨[.list []], by decide +kernel, by decide +kernel⟩)
  k_go0; (all_goals try k_fold); (try clear said)
  repeat' ((fail_if_success (with_reducible show wpAny _ _ (pyIter (Value.ref _)) (fun it s₂ => TurnsAt _ _ _ _ _ _ _ _ _ it s₂) _ _)); (first | (k_unfold; (try dsimp only)) | walk1 | (dsimp only; walk1)))
  (rename Fr _ _ _ _ => F1)
  (rename News _ _ _ _ => N1)
  (rename IntsAre _ _ => hI1)
  (rename Below _ _ _ _ => B0)
  refine law_turns rfl (.head _) F1 N1 ?init ?turn ?done
  (case init =>
    refine' lj_start ?x1 ?x2 ?x3 ?x4 ?x5 ?x6 ?x7 ?x8 ?x9
    (case x1 => exact ⟨by with_unfolding_all rfl, by with_unfolding_all rfl, by with_unfolding_all rfl, by with_unfolding_all rfl⟩)
    (case x2 => with_reducible assumption)
    (case x3 => with_reducible assumption)
    (case x4 => with_reducible assumption)
    (case x5 => with_reducible assumption)
    (case x6 => with_reducible assumption)
    (case x7 => with_reducible assumption)
    (case x8 => with_reducible assumption)
    (case x9 => with_reducible assumption))
  (case done =>
    intro m₁ nx h tk hml hJ F2 N2
    clear F1 N1 hI1
    k_steps)
  (case turn =>
    rintro i v m₁ nx h tk I oI hv hnI hml hJ F2 N2 hcI
    obtain ⟨d, u, rfl, hd⟩ := deed_of hI1 hv
    obtain ⟨hd0, hd13, hi15⟩ := deed_lt hd
    obtain ⟨ln, lc, lp, lr, nn, nc, np, nr, nvs, cvs, pvs, rvs, rest, gs, hsub, hnc, hrn, hrc, ⟨mn, mc, mp, mr⟩, hD, hP, hR, hdk, hst, hne, htot, hlen⟩ := hJ
    have O : Offs ln lc I rest := ⟨hnc, hnI _ (hsub _ (.head _)), hnI _ (hsub _ (.tail _ (.head _))), hrn, hrc, fun p hp => hnI _ (hsub _ (.tail _ (.tail _ hp)))⟩
    have N3 := cb_drop (news := (lc, W.listOf cvs.toArray nc) :: (ln, W.listOf nvs.toArray nn) :: (I, oI) :: rest) N2 (List.forall_mem_cons.mpr ⟨.tail _ (hsub _ (.tail _ (.head _))), List.forall_mem_cons.mpr ⟨.tail _ (hsub _ (.head _)), List.forall_mem_cons.mpr ⟨.head _, fun p hp => .tail _ (hsub _ (.tail _ (.tail _ hp)))⟩⟩⟩)
    have F3 := fr_know (x := Str.ofString "names") (fr_know (x := Str.ofString "counts") (fr_know (x := Str.ofString "pieces") (fr_know F2 mr) (by rw [if_neg (by decide)]; exact mp)) (by rw [if_neg (by decide), if_neg (by decide)]; exact mc)) (by rw [if_neg (by decide), if_neg (by decide), if_neg (by decide)]; exact mn)
    clear F1 N1 hI1 hd hv F2 N2 hnI hml hsub hnc hrn hrc mn mc mp mr
    repeat (rename (_ < _ ∧ _) => z9; clear z9)
    repeat (rename (_ ≠ _ ∧ _) => z9; clear z9)
    repeat (rename (IntsAre _ _) => z9; clear z9)
    repeat (rename (∀ p : Addr × Obj, p ∈ _ → p.1 < _) => z9; clear z9)
    repeat (rename (∀ p : Addr × Obj, p ∈ _ → p.1 ≠ _) => z9; clear z9)
    obtain ⟨hlN, hlC⟩ := hst.len
    have hg16 : gs.length ≤ 16 := by omega
    by_cases h10 : d < 10
    · obtain ⟨tk9, vk, hkp, hkr, hkv⟩ := hdk d.toNat (by omega)
      repeat' ((fail_if_success (with_reducible show wpAny _ _ (call (Value.builtin "list.append") _) _ _ _)); (first | (k_unfold; (try dsimp only)) | walk1 | (dsimp only; walk1)))
      (rename Fr _ _ _ _ => kF); (rename News _ _ _ _ => kN)
      refine my_append kF kN (rest := (I, oI) :: (lc, W.listOf cvs.toArray nc) :: rest) (by k_mem) O.offN (by kd_subs) (by omega) ?_
      clear kF kN; intro h1 F4 N4
      repeat' ((fail_if_success (with_reducible show wpAny _ _ (call (Value.builtin "list.append") _) _ _ _)); (first | (k_unfold; (try dsimp only)) | walk1 | (dsimp only; walk1)))
      (rename Fr _ _ _ _ => kF); (rename News _ _ _ _ => kN)
      refine my_append kF kN (rest := (ln, W.listOf (nvs ++ [Value.str (S (txt (dk d.toNat))) tk9]).toArray (nn + 1)) :: (I, oI) :: rest) (by k_mem) O.offC (by kd_subs) (by omega) ?_
      clear kF kN; intro h2 F5 N5
      k_steps
      (rename Fr _ _ _ _ => kF); (rename News _ _ _ _ => kN)
      have hld := len_dk d.toNat
      exact law_end kF kN O ⟨by with_unfolding_all rfl, by with_unfolding_all rfl, by with_unfolding_all rfl, by with_unfolding_all rfl⟩ hD hP hR hdk (.push hst hkv (wf_dk _)) (by simp) (by rw [total_cons]; omega) (by rw [List.length_cons]; omega)
    · rcases (show d = 10 ∨ d = 11 ∨ d = 12 by omega) with rfl | rfl | rfl
      · rcases gs with _ | ⟨g, gs⟩
        · exact absurd rfl hne
        obtain ⟨nvs, tg, cvs, vg, rfl, rfl, hst2, hvg, hwg⟩ := hst.pop
        rw [total_cons] at htot
        simp only [List.length_append, List.length_cons, List.length_nil] at hlN hlC hlen hg16
        have hxg : (S (txt g)).length ≤ 10000 := by rw [S_len]; omega
        have hzg := wf_size hwg
        have hs : ∀ p ∈ rest, p ∈ rest := fun _ h => h
        have hkg := wf_runsOk hwg
        repeat' ((fail_if_success (with_reducible show wpAny _ _ (call (Value.builtin "list.pop") _) _ _ _)); (first | (k_unfold; (try dsimp only)) | walk1 | (dsimp only; walk1)))
        (rename Fr _ _ _ _ => kF); (rename News _ _ _ _ => kN)
        refine my_pop2 kF kN (a := ln) (rest := (I, oI) :: (lc, W.listOf (cvs ++ [vg]).toArray nc) :: rest) (by k_mem) O.offN (by kd_subs) (by omega) ?_
        clear kF kN; intro h9 kF kN
        repeat' ((fail_if_success (with_reducible show wpAny _ _ (call (Value.builtin "list.pop") _) _ _ _)); (first | (k_unfold; (try dsimp only)) | walk1 | (dsimp only; walk1)))
        (rename Fr _ _ _ _ => kF); (rename News _ _ _ _ => kN)
        refine my_pop2 kF kN (a := lc) (rest := (ln, W.listOf nvs.toArray (nn + 1)) :: (I, oI) :: rest) (by k_mem) O.offC (by kd_subs) (by omega) ?_
        clear kF kN; intro h9 kF kN
        repeat' ((fail_if_success (with_reducible show wpAny _ _ (compareOp CmpOp.Eq (Value.ref _) (Value.ref _)) _ _ _)); (first | (k_unfold; (try dsimp only)) | walk1 | (dsimp only; walk1)))
        (rename Fr _ _ _ _ => kF); (rename News _ _ _ _ => kN)
        rcases gs with _ | ⟨g2, gs⟩
        · cases hst2
          k_dflt (refine' my_eq (r := true) (ds := []) (es := []) kN ?ya ?yb .nil .nil (List.forall_mem_nil _) (List.forall_mem_nil _) ?yi ?ye ?_; (case ya => k_mem); (case yb => k_mem); (case yi => ke_room); (case ye => simp); k_whole)
          have kN9 := cb_drop (news := (lc, W.listOf [].toArray (nc + 1)) :: (ln, W.listOf [].toArray (nn + 1)) :: (I, oI) :: rest) kN (by kd_subs)
          clear kN; have kN := kN9; clear kN9
          repeat' ((fail_if_success (with_reducible show wpAny _ _ (call (Value.ref 42) [_]) _ _ _)); (first | (k_unfold; (try dsimp only)) | walk1 | (dsimp only; walk1)))
          (rename Fr _ _ _ _ => kF); (rename News _ _ _ _ => kN)
          (rename _ < _ ∧ _ => l9); have l8 := lt_conv kN l9; clear l9
          (k_dflt (refine' Tel.use ?B ?F ?X ?N ?T ?hk (build_nc ?h1 hxg) ?hd ?hu ?_; (case F => exact kF); (case N => exact kN); (case B => exact B0); (case X => k_asm); (case T => k_asm); (case hk => exact rfl); (case h1 => k_mem); (case hd => decide); (case hu => decide)))
          clear kF kN; intro r9 tl9 h9 tk9 kF kN ord9 out9; (try simp only [List.nil_append, List.cons_append, List.append_nil, List.append_assoc] at kN); (try simp only [List.nil_append, List.cons_append, List.append_nil, List.append_assoc] at out9)
          obtain ⟨R1, hs1, O1, kN1, hp1⟩ := settle (oc := W.listOf [].toArray (nc + 1)) (on := W.listOf [].toArray (nn + 1)) O kN (by ktr_rel)
          clear kN; (have kN := kN1); clear kN1
          replace hs := fun p hp => hs1 p (hs p hp)
          clear ord9
          obtain ⟨t9, rfl⟩ := out9
          replace hvg := hvg.mono hs1
          repeat' ((fail_if_success (with_reducible show wpAny _ _ (call (Value.ref 254) [_, _]) _ _ _)); (first | (k_unfold; (try dsimp only)) | walk1 | (dsimp only; walk1)))
          (rename Fr _ _ _ _ => kF); (rename News _ _ _ _ => kN)
          (k_dflt (refine' Tel.use ?B ?F ?X ?N ?T ?hk (joined_tel (left := cdR) (right := g) ?h1 ?h2 ?hz (wf_runsOk wf_cd) hkg) ?hd ?hu ?_; (case F => exact kF); (case N => exact kN); (case B => exact B0); (case X => k_asm); (case T => k_asm); (case hk => exact rfl); (case h1 => tb_rel); (case h2 => tb_rel); (case hz => (simp only [List.length_cons, List.length_nil]; omega)); (case hd => decide); (case hu => decide)))
          clear kF kN; intro r9 tl9 h9 tk9 kF kN ord9 out9; (try simp only [List.nil_append, List.cons_append, List.append_nil, List.append_assoc] at kN); (try simp only [List.nil_append, List.cons_append, List.append_nil, List.append_assoc] at out9)
          obtain ⟨R2, hs2, O2, kN2, hp2⟩ := settle (oc := W.listOf [].toArray (nc + 1)) (on := W.listOf [].toArray (nn + 1)) O1 kN (by ktr_rel)
          clear kN; (have kN := kN2); clear kN2
          replace hs := fun p hp => hs2 p (hs p hp)
          clear ord9
          have hr2 := runs_rest kN ((Stack.nil (rest := rest)).mono (fun p hp => hs p hp)) hcI (joinedL_ne (.inl (by simp))) (out9.mono hp2)
          clear out9
          have hwd : WF (joinedL cdR g) := wf_c hwg
          have hnm : Str.ofString "C" ++ Str.ofString "." ++ S (txt g) = S (txt (joinedL cdR g)) := name_c hwg
          have htd : (txt (joinedL cdR g)).length = (txt g).length + 2 := len_c hwg
          have hz9 := wf_size hwd
          have ht9 := told_size hwd
          have hl9 : (Str.ofString "C" ++ Str.ofString "." ++ S (txt g)).length ≤ 1000 := by rw [hnm, S_len]; omega
          have hd9 : ReadsTo (Str.ofString "C" ++ Str.ofString "." ++ S (txt g)) (toldL (joinedL cdR g)) := by rw [hnm]; exact reads_told hwd
          have ho9 := wf_strOk hwd
          repeat' ((fail_if_success (with_reducible show wpAny _ _ (call (Value.ref 240) [_]) _ _ _)); (first | (k_unfold; (try dsimp only)) | walk1 | (dsimp only; walk1)))
          (rename Fr _ _ _ _ => kF); (rename News _ _ _ _ => kN)
          (k_dflt (refine' Tel.use ?B ?F ?X ?N ?T ?hk (read_tel hl9 (by omega) hd9) ?hd ?hu ?_; (case F => exact kF); (case N => exact kN); (case B => exact B0); (case X => k_asm); (case T => k_asm); (case hk => exact rfl);  (case hd => decide); (case hu => decide)))
          clear kF kN; intro r9 tl9 h9 tk9 kF kN ord9 out9; (try simp only [List.nil_append, List.cons_append, List.append_nil, List.append_assoc] at kN); (try simp only [List.nil_append, List.cons_append, List.append_nil, List.append_assoc] at out9)
          obtain ⟨R3, hs3, O3, kN3, hp3⟩ := settle (oc := W.listOf [].toArray (nc + 1)) (on := W.listOf [].toArray (nn + 1)) O2 kN (by ktr_rel)
          clear kN; (have kN := kN3); clear kN3
          replace hs := fun p hp => hs3 p (hs p hp)
          clear ord9
          obtain ⟨ra, rvs9, rn, rfl, hra, hrd⟩ := dlist_inv out9
          replace hra := hp3 _ hra; replace hrd := hrd.mono hp3; clear out9
          replace hr2 := hr2.mono hs3
          repeat' ((fail_if_success (with_reducible show wpAny _ _ (call (Value.ref 247) [_]) _ _ _)); (first | (k_unfold; (try dsimp only)) | walk1 | (dsimp only; walk1)))
          (rename Fr _ _ _ _ => kF); (rename News _ _ _ _ => kN)
          (k_dflt (refine' Tel.use ?B ?F ?X ?N ?T ?hk (told_tel ?hrun hwd.pos ?hsz) ?hd ?hu ?_; (case F => exact kF); (case N => exact kN); (case B => exact B0); (case X => k_asm); (case T => k_asm); (case hk => exact rfl); (case hrun => tb_rel); (case hsz => omega); (case hd => decide); (case hu => decide)))
          clear kF kN; intro r9 tl9 h9 tk9 kF kN ord9 out9; (try simp only [List.nil_append, List.cons_append, List.append_nil, List.append_assoc] at kN); (try simp only [List.nil_append, List.cons_append, List.append_nil, List.append_assoc] at out9)
          obtain ⟨R4, hs4, O4, kN4, hp4⟩ := settle (oc := W.listOf [].toArray (nc + 1)) (on := W.listOf [].toArray (nn + 1)) O3 kN (by ktr_rel)
          clear kN; (have kN := kN4); clear kN4
          replace hs := fun p hp => hs4 p (hs p hp)
          clear ord9
          obtain ⟨ta, tvs9, tn, rfl, hta, htd9⟩ := dlist_inv out9
          replace hta := hp4 _ hta; replace htd9 := htd9.mono hp4; clear out9
          replace hr2 := hr2.mono hs4
          have hs8 : ∀ p ∈ (lc, W.listOf [].toArray (nc + 1)) :: (ln, W.listOf [].toArray (nn + 1)) :: (I, oI) :: R3, p ∈ (lc, W.listOf [].toArray (nc + 1)) :: (ln, W.listOf [].toArray (nn + 1)) :: (I, oI) :: R4 := List.forall_mem_cons.mpr ⟨.head _, List.forall_mem_cons.mpr ⟨.tail _ (.head _), List.forall_mem_cons.mpr ⟨.tail _ (.tail _ (.head _)), fun p hp => .tail _ (.tail _ (.tail _ (hs4 p hp)))⟩⟩⟩
          replace hra := hs8 _ hra; replace hrd := hrd.mono hs8; clear hs8
          repeat' ((fail_if_success (with_reducible show wpAny _ _ (compareOp CmpOp.NotEq (Value.ref _) (Value.ref _)) _ _ _)); (first | (k_unfold; (try dsimp only)) | walk1 | (dsimp only; walk1)))
          (rename Fr _ _ _ _ => kF); (rename News _ _ _ _ => kN)
          k_dflt (refine' my_ne (r := false) kN hra hta hrd htd9 ho9 ho9 ?yi ?ye ?_; (case yi => ke_room); (case ye => simp); k_whole)
          repeat' ((fail_if_success (with_reducible show wpAny _ _ (call (Value.builtin "list.append") _) _ _ _)); (first | (k_unfold; (try dsimp only)) | walk1 | (dsimp only; walk1)))
          (rename Fr _ _ _ _ => kF); (rename News _ _ _ _ => kN)
          refine my_append kF kN (a := ln) (rest := (I, oI) :: (lc, W.listOf [].toArray (nc + 1)) :: R4) (by k_mem) O4.offN (by kd_subs) (by omega) ?_
          clear kF kN; intro h9 kF kN
          repeat' ((fail_if_success (with_reducible show wpAny _ _ (call (Value.builtin "list.append") _) _ _ _)); (first | (k_unfold; (try dsimp only)) | walk1 | (dsimp only; walk1)))
          (rename Fr _ _ _ _ => kF); (rename News _ _ _ _ => kN)
          refine my_append kF kN (a := lc) (rest := (ln, W.listOf ([] ++ [Value.str (Str.ofString "C" ++ Str.ofString "." ++ S (txt g)) t9]).toArray ((nn + 1) + 1)) :: (I, oI) :: R4) (by k_mem) O4.offC (by kd_subs) (by omega) ?_
          clear kF kN; intro h9 kF kN
          k_steps
          (rename Fr _ _ _ _ => kF); (rename News _ _ _ _ => kN)
          refine law_end kF kN O4 ⟨by with_unfolding_all rfl, by with_unfolding_all rfl, by with_unfolding_all rfl, by with_unfolding_all rfl⟩ (hs _ hD) (hs _ hP) (hs _ hR) (dk_mono hs hdk) (gs := (joinedL cdR g) :: []) ?_ (by simp) (by rw [total_cons]; omega) (by simp only [List.length_cons, List.length_nil]; omega)
          rw [hnm]
          exact .push ((Stack.nil (rest := rest)).mono hs) hr2 hwd
        · obtain ⟨ds9, hds, hok, hdl⟩ := hst2.dats
          k_dflt (refine' my_eq (r := false) (ds := ds9) (es := []) kN ?ya ?yb (hds.mono (by simp)) .nil hok (List.forall_mem_nil _) ?yi ?ye ?_; (case ya => k_mem); (case yb => k_mem); (case yi => ke_room); (case ye => exact iff_of_false (fun e => by rw [e] at hdl; simp at hdl) Bool.false_ne_true); k_whole)
          repeat' ((fail_if_success (with_reducible show wpAny _ _ (compareOp CmpOp.Eq (Value.ref _) (Value.ref _)) _ _ _)); (first | (k_unfold; (try dsimp only)) | walk1 | (dsimp only; walk1)))
          (rename Fr _ _ _ _ => kF); (rename News _ _ _ _ => kN)
          k_dflt (refine' my_eq (r := false) (ds := ds9) (es := []) kN ?ya ?yb (hds.mono (by simp)) .nil hok (List.forall_mem_nil _) ?yi ?ye ?_; (case ya => k_mem); (case yb => k_mem); (case yi => ke_room); (case ye => exact iff_of_false (fun e => by rw [e] at hdl; simp at hdl) Bool.false_ne_true); k_whole)
          clear hds hok hdl ds9
          have kN9 := cb_drop (news := (lc, W.listOf cvs.toArray (nc + 1)) :: (ln, W.listOf nvs.toArray (nn + 1)) :: (I, oI) :: rest) kN (by kd_subs)
          clear kN; have kN := kN9; clear kN9
          obtain ⟨nvs, tg2, cvs, vg2, rfl, rfl, hst3, hvg2, hwg2⟩ := hst2.pop
          rw [total_cons] at htot
          simp only [List.length_append, List.length_cons, List.length_nil] at hlN hlC hlen hg16
          have hxg2 : (S (txt g2)).length ≤ 10000 := by rw [S_len]; omega
          have hzg2 := wf_size hwg2
          have hkg2 := wf_runsOk hwg2
          repeat' ((fail_if_success (with_reducible show wpAny _ _ (call (Value.builtin "list.pop") _) _ _ _)); (first | (k_unfold; (try dsimp only)) | walk1 | (dsimp only; walk1)))
          (rename Fr _ _ _ _ => kF); (rename News _ _ _ _ => kN)
          refine my_pop2 kF kN (a := ln) (rest := (I, oI) :: (lc, W.listOf (cvs ++ [vg2]).toArray (nc + 1)) :: rest) (by k_mem) O.offN (by kd_subs) (by omega) ?_
          clear kF kN; intro h9 kF kN
          have kN9 := cb_drop (news := (lc, W.listOf (cvs ++ [vg2]).toArray (nc + 1)) :: (ln, W.listOf nvs.toArray (nn + 1 + 1)) :: (I, oI) :: rest) kN (by kd_subs)
          clear kN; have kN := kN9; clear kN9
          repeat' ((fail_if_success (with_reducible show wpAny _ _ (call (Value.ref 42) [_]) _ _ _)); (first | (k_unfold; (try dsimp only)) | walk1 | (dsimp only; walk1)))
          (rename Fr _ _ _ _ => kF); (rename News _ _ _ _ => kN)
          (rename _ < _ ∧ _ => l9); have l8 := lt_conv kN l9; clear l9
          (k_dflt (refine' Tel.use ?B ?F ?X ?N ?T ?hk (build_cc ?h1 hxg2 hxg) ?hd ?hu ?_; (case F => exact kF); (case N => exact kN); (case B => exact B0); (case X => k_asm); (case T => k_asm); (case hk => exact rfl); (case h1 => k_mem); (case hd => decide); (case hu => decide)))
          clear kF kN; intro r9 tl9 h9 tk9 kF kN ord9 out9; (try simp only [List.nil_append, List.cons_append, List.append_nil, List.append_assoc] at kN); (try simp only [List.nil_append, List.cons_append, List.append_nil, List.append_assoc] at out9)
          obtain ⟨R1, hs1, O1, kN1, hp1⟩ := settle (oc := W.listOf (cvs ++ [vg2]).toArray (nc + 1)) (on := W.listOf nvs.toArray (nn + 1 + 1)) O kN (by ktr_rel)
          clear kN; (have kN := kN1); clear kN1
          replace hs := fun p hp => hs1 p (hs p hp)
          clear ord9
          obtain ⟨t9, rfl⟩ := out9
          replace hvg := hvg.mono hs1
          replace hvg2 := hvg2.mono hs1
          repeat' ((fail_if_success (with_reducible show wpAny _ _ (call (Value.builtin "list.pop") _) _ _ _)); (first | (k_unfold; (try dsimp only)) | walk1 | (dsimp only; walk1)))
          (rename Fr _ _ _ _ => kF); (rename News _ _ _ _ => kN)
          refine my_pop2 kF kN (a := lc) (rest := (ln, W.listOf nvs.toArray (nn + 1 + 1)) :: (I, oI) :: R1) (by k_mem) O1.offC (by kd_subs) (by omega) ?_
          clear kF kN; intro h9 kF kN
          repeat' ((fail_if_success (with_reducible show wpAny _ _ (call (Value.ref 254) [_, _]) _ _ _)); (first | (k_unfold; (try dsimp only)) | walk1 | (dsimp only; walk1)))
          (rename Fr _ _ _ _ => kF); (rename News _ _ _ _ => kN)
          (k_dflt (refine' Tel.use ?B ?F ?X ?N ?T ?hk (joined_tel (left := g2) (right := [(Str.ofString ".", 1)]) ?h1 ?h2 ?hz hkg2 (wf_runsOk wf_dot)) ?hd ?hu ?_; (case F => exact kF); (case N => exact kN); (case B => exact B0); (case X => k_asm); (case T => k_asm); (case hk => exact rfl); (case h1 => tb_rel); (case h2 => tb_rel); (case hz => (simp only [List.length_cons, List.length_nil]; omega)); (case hd => decide); (case hu => decide)))
          clear kF kN; intro r9 tl9 h9 tk9 kF kN ord9 out9; (try simp only [List.nil_append, List.cons_append, List.append_nil, List.append_assoc] at kN); (try simp only [List.nil_append, List.cons_append, List.append_nil, List.append_assoc] at out9)
          obtain ⟨R2, hs2, O2, kN2, hp2⟩ := settle (oc := W.listOf cvs.toArray (nc + 1 + 1)) (on := W.listOf nvs.toArray (nn + 1 + 1)) O1 kN (by ktr_rel)
          clear kN; (have kN := kN2); clear kN2
          replace hs := fun p hp => hs2 p (hs p hp)
          clear ord9
          replace hvg := hvg.mono hs2
          replace hvg2 := hvg2.mono hs2
          have hr2 := runs_rest kN (hst3.mono (fun p hp => hs p hp)) hcI (joinedL_ne (.inr (by simp))) (out9.mono hp2)
          clear out9
          have hj9 := joinedL_length g2 [(Str.ofString ".", 1)]
          simp only [List.length_cons, List.length_nil] at hj9
          repeat' ((fail_if_success (with_reducible show wpAny _ _ (call (Value.ref 254) [_, _]) _ _ _)); (first | (k_unfold; (try dsimp only)) | walk1 | (dsimp only; walk1)))
          (rename Fr _ _ _ _ => kF); (rename News _ _ _ _ => kN)
          (k_dflt (refine' Tel.use ?B ?F ?X ?N ?T ?hk (joined_tel (left := joinedL g2 [(Str.ofString ".", 1)]) (right := g) ?h1 ?h2 ?hz (joinedL_ok hkg2 (wf_runsOk wf_dot)) hkg) ?hd ?hu ?_; (case F => exact kF); (case N => exact kN); (case B => exact B0); (case X => k_asm); (case T => k_asm); (case hk => exact rfl); (case h1 => tb_rel); (case h2 => tb_rel); (case hz => omega); (case hd => decide); (case hu => decide)))
          clear kF kN; intro r9 tl9 h9 tk9 kF kN ord9 out9; (try simp only [List.nil_append, List.cons_append, List.append_nil, List.append_assoc] at kN); (try simp only [List.nil_append, List.cons_append, List.append_nil, List.append_assoc] at out9)
          obtain ⟨R3, hs3, O3, kN3, hp3⟩ := settle (oc := W.listOf cvs.toArray (nc + 1 + 1)) (on := W.listOf nvs.toArray (nn + 1 + 1)) O2 kN (by ktr_rel)
          clear kN; (have kN := kN3); clear kN3
          replace hs := fun p hp => hs3 p (hs p hp)
          clear ord9
          have hr3 := runs_rest kN (hst3.mono (fun p hp => hs p hp)) hcI (joinedL_ne (.inl (joinedL_ne (.inr (by simp))))) (out9.mono hp3)
          clear out9
          have hwd : WF (joinedL (joinedL g2 [(Str.ofString ".", 1)]) g) := wf_two (.inl rfl) hwg2 hwg
          have hnm : S (txt g2) ++ Str.ofString "." ++ S (txt g) = S (txt (joinedL (joinedL g2 [(Str.ofString ".", 1)]) g)) := name_cc hwg2 hwg
          have htd : (txt (joinedL (joinedL g2 [(Str.ofString ".", 1)]) g)).length = (txt g2).length + (txt g).length + 1 := len_cc hwg2 hwg
          have hz9 := wf_size hwd
          have ht9 := told_size hwd
          have hl9 : (S (txt g2) ++ Str.ofString "." ++ S (txt g)).length ≤ 1000 := by rw [hnm, S_len]; omega
          have hd9 : ReadsTo (S (txt g2) ++ Str.ofString "." ++ S (txt g)) (toldL (joinedL (joinedL g2 [(Str.ofString ".", 1)]) g)) := by rw [hnm]; exact reads_told hwd
          have ho9 := wf_strOk hwd
          repeat' ((fail_if_success (with_reducible show wpAny _ _ (call (Value.ref 240) [_]) _ _ _)); (first | (k_unfold; (try dsimp only)) | walk1 | (dsimp only; walk1)))
          (rename Fr _ _ _ _ => kF); (rename News _ _ _ _ => kN)
          (k_dflt (refine' Tel.use ?B ?F ?X ?N ?T ?hk (read_tel hl9 (by omega) hd9) ?hd ?hu ?_; (case F => exact kF); (case N => exact kN); (case B => exact B0); (case X => k_asm); (case T => k_asm); (case hk => exact rfl);  (case hd => decide); (case hu => decide)))
          clear kF kN; intro r9 tl9 h9 tk9 kF kN ord9 out9; (try simp only [List.nil_append, List.cons_append, List.append_nil, List.append_assoc] at kN); (try simp only [List.nil_append, List.cons_append, List.append_nil, List.append_assoc] at out9)
          obtain ⟨R4, hs4, O4, kN4, hp4⟩ := settle (oc := W.listOf cvs.toArray (nc + 1 + 1)) (on := W.listOf nvs.toArray (nn + 1 + 1)) O3 kN (by ktr_rel)
          clear kN; (have kN := kN4); clear kN4
          replace hs := fun p hp => hs4 p (hs p hp)
          clear ord9
          obtain ⟨ra, rvs9, rn, rfl, hra, hrd⟩ := dlist_inv out9
          replace hra := hp4 _ hra; replace hrd := hrd.mono hp4; clear out9
          replace hr3 := hr3.mono hs4
          repeat' ((fail_if_success (with_reducible show wpAny _ _ (call (Value.ref 247) [_]) _ _ _)); (first | (k_unfold; (try dsimp only)) | walk1 | (dsimp only; walk1)))
          (rename Fr _ _ _ _ => kF); (rename News _ _ _ _ => kN)
          (k_dflt (refine' Tel.use ?B ?F ?X ?N ?T ?hk (told_tel ?hrun hwd.pos ?hsz) ?hd ?hu ?_; (case F => exact kF); (case N => exact kN); (case B => exact B0); (case X => k_asm); (case T => k_asm); (case hk => exact rfl); (case hrun => tb_rel); (case hsz => omega); (case hd => decide); (case hu => decide)))
          clear kF kN; intro r9 tl9 h9 tk9 kF kN ord9 out9; (try simp only [List.nil_append, List.cons_append, List.append_nil, List.append_assoc] at kN); (try simp only [List.nil_append, List.cons_append, List.append_nil, List.append_assoc] at out9)
          obtain ⟨R5, hs5, O5, kN5, hp5⟩ := settle (oc := W.listOf cvs.toArray (nc + 1 + 1)) (on := W.listOf nvs.toArray (nn + 1 + 1)) O4 kN (by ktr_rel)
          clear kN; (have kN := kN5); clear kN5
          replace hs := fun p hp => hs5 p (hs p hp)
          clear ord9
          obtain ⟨ta, tvs9, tn, rfl, hta, htd9⟩ := dlist_inv out9
          replace hta := hp5 _ hta; replace htd9 := htd9.mono hp5; clear out9
          replace hr3 := hr3.mono hs5
          have hs8 : ∀ p ∈ (lc, W.listOf cvs.toArray (nc + 1 + 1)) :: (ln, W.listOf nvs.toArray (nn + 1 + 1)) :: (I, oI) :: R4, p ∈ (lc, W.listOf cvs.toArray (nc + 1 + 1)) :: (ln, W.listOf nvs.toArray (nn + 1 + 1)) :: (I, oI) :: R5 := List.forall_mem_cons.mpr ⟨.head _, List.forall_mem_cons.mpr ⟨.tail _ (.head _), List.forall_mem_cons.mpr ⟨.tail _ (.tail _ (.head _)), fun p hp => .tail _ (.tail _ (.tail _ (hs5 p hp)))⟩⟩⟩
          replace hra := hs8 _ hra; replace hrd := hrd.mono hs8; clear hs8
          repeat' ((fail_if_success (with_reducible show wpAny _ _ (compareOp CmpOp.NotEq (Value.ref _) (Value.ref _)) _ _ _)); (first | (k_unfold; (try dsimp only)) | walk1 | (dsimp only; walk1)))
          (rename Fr _ _ _ _ => kF); (rename News _ _ _ _ => kN)
          k_dflt (refine' my_ne (r := false) kN hra hta hrd htd9 ho9 ho9 ?yi ?ye ?_; (case yi => ke_room); (case ye => simp); k_whole)
          repeat' ((fail_if_success (with_reducible show wpAny _ _ (call (Value.builtin "list.append") _) _ _ _)); (first | (k_unfold; (try dsimp only)) | walk1 | (dsimp only; walk1)))
          (rename Fr _ _ _ _ => kF); (rename News _ _ _ _ => kN)
          refine my_append kF kN (a := ln) (rest := (I, oI) :: (lc, W.listOf cvs.toArray (nc + 1 + 1)) :: R5) (by k_mem) O5.offN (by kd_subs) (by omega) ?_
          clear kF kN; intro h9 kF kN
          repeat' ((fail_if_success (with_reducible show wpAny _ _ (call (Value.builtin "list.append") _) _ _ _)); (first | (k_unfold; (try dsimp only)) | walk1 | (dsimp only; walk1)))
          (rename Fr _ _ _ _ => kF); (rename News _ _ _ _ => kN)
          refine my_append kF kN (a := lc) (rest := (ln, W.listOf (nvs ++ [Value.str (S (txt g2) ++ Str.ofString "." ++ S (txt g)) t9]).toArray ((nn + 1 + 1) + 1)) :: (I, oI) :: R5) (by k_mem) O5.offC (by kd_subs) (by omega) ?_
          clear kF kN; intro h9 kF kN
          k_steps
          (rename Fr _ _ _ _ => kF); (rename News _ _ _ _ => kN)
          refine law_end kF kN O5 ⟨by with_unfolding_all rfl, by with_unfolding_all rfl, by with_unfolding_all rfl, by with_unfolding_all rfl⟩ (hs _ hD) (hs _ hP) (hs _ hR) (dk_mono hs hdk) (gs := (joinedL (joinedL g2 [(Str.ofString ".", 1)]) g) :: gs) ?_ (by simp) (by rw [total_cons]; omega) (by simp only [List.length_cons, List.length_nil]; omega)
          rw [hnm]
          exact .push (hst3.mono hs) hr3 hwd
      · rcases gs with _ | ⟨g, gs⟩
        · exact absurd rfl hne
        obtain ⟨nvs, tg, cvs, vg, rfl, rfl, hst2, hvg, hwg⟩ := hst.pop
        rw [total_cons] at htot
        simp only [List.length_append, List.length_cons, List.length_nil] at hlN hlC hlen hg16
        have hxg : (S (txt g)).length ≤ 10000 := by rw [S_len]; omega
        have hzg := wf_size hwg
        have hs : ∀ p ∈ rest, p ∈ rest := fun _ h => h
        have hkg := wf_runsOk hwg
        repeat' ((fail_if_success (with_reducible show wpAny _ _ (call (Value.builtin "list.pop") _) _ _ _)); (first | (k_unfold; (try dsimp only)) | walk1 | (dsimp only; walk1)))
        (rename Fr _ _ _ _ => kF); (rename News _ _ _ _ => kN)
        refine my_pop2 kF kN (a := ln) (rest := (I, oI) :: (lc, W.listOf (cvs ++ [vg]).toArray nc) :: rest) (by k_mem) O.offN (by kd_subs) (by omega) ?_
        clear kF kN; intro h9 kF kN
        repeat' ((fail_if_success (with_reducible show wpAny _ _ (call (Value.builtin "list.pop") _) _ _ _)); (first | (k_unfold; (try dsimp only)) | walk1 | (dsimp only; walk1)))
        (rename Fr _ _ _ _ => kF); (rename News _ _ _ _ => kN)
        refine my_pop2 kF kN (a := lc) (rest := (ln, W.listOf nvs.toArray (nn + 1)) :: (I, oI) :: rest) (by k_mem) O.offC (by kd_subs) (by omega) ?_
        clear kF kN; intro h9 kF kN
        repeat' ((fail_if_success (with_reducible show wpAny _ _ (compareOp CmpOp.Eq (Value.ref _) (Value.ref _)) _ _ _)); (first | (k_unfold; (try dsimp only)) | walk1 | (dsimp only; walk1)))
        (rename Fr _ _ _ _ => kF); (rename News _ _ _ _ => kN)
        rcases gs with _ | ⟨g2, gs⟩
        · cases hst2
          k_dflt (refine' my_eq (r := true) (ds := []) (es := []) kN ?ya ?yb .nil .nil (List.forall_mem_nil _) (List.forall_mem_nil _) ?yi ?ye ?_; (case ya => k_mem); (case yb => k_mem); (case yi => ke_room); (case ye => simp); k_whole)
          have kN9 := cb_drop (news := (lc, W.listOf [].toArray (nc + 1)) :: (ln, W.listOf [].toArray (nn + 1)) :: (I, oI) :: rest) kN (by kd_subs)
          clear kN; have kN := kN9; clear kN9
          repeat' ((fail_if_success (with_reducible show wpAny _ _ (call (Value.ref 42) [_]) _ _ _)); (first | (k_unfold; (try dsimp only)) | walk1 | (dsimp only; walk1)))
          (rename Fr _ _ _ _ => kF); (rename News _ _ _ _ => kN)
          (rename _ < _ ∧ _ => l9); have l8 := lt_conv kN l9; clear l9
          (k_dflt (refine' Tel.use ?B ?F ?X ?N ?T ?hk (build_cn ?h1) ?hd ?hu ?_; (case F => exact kF); (case N => exact kN); (case B => exact B0); (case X => k_asm); (case T => k_asm); (case hk => exact rfl); (case h1 => k_mem); (case hd => decide); (case hu => decide)))
          clear kF kN; intro r9 tl9 h9 tk9 kF kN ord9 out9; (try simp only [List.nil_append, List.cons_append, List.append_nil, List.append_assoc] at kN); (try simp only [List.nil_append, List.cons_append, List.append_nil, List.append_assoc] at out9)
          obtain ⟨R1, hs1, O1, kN1, hp1⟩ := settle (oc := W.listOf [].toArray (nc + 1)) (on := W.listOf [].toArray (nn + 1)) O kN (by ktr_rel)
          clear kN; (have kN := kN1); clear kN1
          replace hs := fun p hp => hs1 p (hs p hp)
          clear ord9
          obtain ⟨t9, rfl⟩ := out9
          replace hvg := hvg.mono hs1
          have hwd : WF (g) := hwg
          have hnm : S (txt g) = S (txt (g)) := rfl
          have htd : (txt g).length ≤ 1000 := by omega
          have hz9 := wf_size hwd
          have ht9 := told_size hwd
          have hl9 : (S (txt g)).length ≤ 1000 := by rw [hnm, S_len]; omega
          have hd9 : ReadsTo (S (txt g)) (toldL (g)) := by rw [hnm]; exact reads_told hwd
          have ho9 := wf_strOk hwd
          repeat' ((fail_if_success (with_reducible show wpAny _ _ (call (Value.ref 240) [_]) _ _ _)); (first | (k_unfold; (try dsimp only)) | walk1 | (dsimp only; walk1)))
          (rename Fr _ _ _ _ => kF); (rename News _ _ _ _ => kN)
          (k_dflt (refine' Tel.use ?B ?F ?X ?N ?T ?hk (read_tel hl9 (by omega) hd9) ?hd ?hu ?_; (case F => exact kF); (case N => exact kN); (case B => exact B0); (case X => k_asm); (case T => k_asm); (case hk => exact rfl);  (case hd => decide); (case hu => decide)))
          clear kF kN; intro r9 tl9 h9 tk9 kF kN ord9 out9; (try simp only [List.nil_append, List.cons_append, List.append_nil, List.append_assoc] at kN); (try simp only [List.nil_append, List.cons_append, List.append_nil, List.append_assoc] at out9)
          obtain ⟨R2, hs2, O2, kN2, hp2⟩ := settle (oc := W.listOf [].toArray (nc + 1)) (on := W.listOf [].toArray (nn + 1)) O1 kN (by ktr_rel)
          clear kN; (have kN := kN2); clear kN2
          replace hs := fun p hp => hs2 p (hs p hp)
          clear ord9
          obtain ⟨ra, rvs9, rn, rfl, hra, hrd⟩ := dlist_inv out9
          replace hra := hp2 _ hra; replace hrd := hrd.mono hp2; clear out9
          replace hvg := hvg.mono hs2
          repeat' ((fail_if_success (with_reducible show wpAny _ _ (call (Value.ref 247) [_]) _ _ _)); (first | (k_unfold; (try dsimp only)) | walk1 | (dsimp only; walk1)))
          (rename Fr _ _ _ _ => kF); (rename News _ _ _ _ => kN)
          (k_dflt (refine' Tel.use ?B ?F ?X ?N ?T ?hk (told_tel ?hrun hwd.pos ?hsz) ?hd ?hu ?_; (case F => exact kF); (case N => exact kN); (case B => exact B0); (case X => k_asm); (case T => k_asm); (case hk => exact rfl); (case hrun => tb_rel); (case hsz => omega); (case hd => decide); (case hu => decide)))
          clear kF kN; intro r9 tl9 h9 tk9 kF kN ord9 out9; (try simp only [List.nil_append, List.cons_append, List.append_nil, List.append_assoc] at kN); (try simp only [List.nil_append, List.cons_append, List.append_nil, List.append_assoc] at out9)
          obtain ⟨R3, hs3, O3, kN3, hp3⟩ := settle (oc := W.listOf [].toArray (nc + 1)) (on := W.listOf [].toArray (nn + 1)) O2 kN (by ktr_rel)
          clear kN; (have kN := kN3); clear kN3
          replace hs := fun p hp => hs3 p (hs p hp)
          clear ord9
          obtain ⟨ta, tvs9, tn, rfl, hta, htd9⟩ := dlist_inv out9
          replace hta := hp3 _ hta; replace htd9 := htd9.mono hp3; clear out9
          replace hvg := hvg.mono hs3
          have hs8 : ∀ p ∈ (lc, W.listOf [].toArray (nc + 1)) :: (ln, W.listOf [].toArray (nn + 1)) :: (I, oI) :: R2, p ∈ (lc, W.listOf [].toArray (nc + 1)) :: (ln, W.listOf [].toArray (nn + 1)) :: (I, oI) :: R3 := List.forall_mem_cons.mpr ⟨.head _, List.forall_mem_cons.mpr ⟨.tail _ (.head _), List.forall_mem_cons.mpr ⟨.tail _ (.tail _ (.head _)), fun p hp => .tail _ (.tail _ (.tail _ (hs3 p hp)))⟩⟩⟩
          replace hra := hs8 _ hra; replace hrd := hrd.mono hs8; clear hs8
          repeat' ((fail_if_success (with_reducible show wpAny _ _ (compareOp CmpOp.NotEq (Value.ref _) (Value.ref _)) _ _ _)); (first | (k_unfold; (try dsimp only)) | walk1 | (dsimp only; walk1)))
          (rename Fr _ _ _ _ => kF); (rename News _ _ _ _ => kN)
          k_dflt (refine' my_ne (r := false) kN hra hta hrd htd9 ho9 ho9 ?yi ?ye ?_; (case yi => ke_room); (case ye => simp); k_whole)
          repeat' ((fail_if_success (with_reducible show wpAny _ _ (call (Value.builtin "list.append") _) _ _ _)); (first | (k_unfold; (try dsimp only)) | walk1 | (dsimp only; walk1)))
          (rename Fr _ _ _ _ => kF); (rename News _ _ _ _ => kN)
          refine my_append kF kN (a := ln) (rest := (I, oI) :: (lc, W.listOf [].toArray (nc + 1)) :: R3) (by k_mem) O3.offN (by kd_subs) (by omega) ?_
          clear kF kN; intro h9 kF kN
          repeat' ((fail_if_success (with_reducible show wpAny _ _ (call (Value.builtin "list.append") _) _ _ _)); (first | (k_unfold; (try dsimp only)) | walk1 | (dsimp only; walk1)))
          (rename Fr _ _ _ _ => kF); (rename News _ _ _ _ => kN)
          refine my_append kF kN (a := lc) (rest := (ln, W.listOf ([] ++ [Value.str (S (txt g)) t9]).toArray ((nn + 1) + 1)) :: (I, oI) :: R3) (by k_mem) O3.offC (by kd_subs) (by omega) ?_
          clear kF kN; intro h9 kF kN
          k_steps
          (rename Fr _ _ _ _ => kF); (rename News _ _ _ _ => kN)
          refine law_end kF kN O3 ⟨by with_unfolding_all rfl, by with_unfolding_all rfl, by with_unfolding_all rfl, by with_unfolding_all rfl⟩ (hs _ hD) (hs _ hP) (hs _ hR) (dk_mono hs hdk) (gs := (g) :: []) ?_ (by simp) (by rw [total_cons]; omega) (by simp only [List.length_cons, List.length_nil]; omega)
          rw [hnm]
          exact .push ((Stack.nil (rest := rest)).mono hs) hvg hwd
        · obtain ⟨ds9, hds, hok, hdl⟩ := hst2.dats
          k_dflt (refine' my_eq (r := false) (ds := ds9) (es := []) kN ?ya ?yb (hds.mono (by simp)) .nil hok (List.forall_mem_nil _) ?yi ?ye ?_; (case ya => k_mem); (case yb => k_mem); (case yi => ke_room); (case ye => exact iff_of_false (fun e => by rw [e] at hdl; simp at hdl) Bool.false_ne_true); k_whole)
          repeat' ((fail_if_success (with_reducible show wpAny _ _ (compareOp CmpOp.Eq (Value.ref _) (Value.ref _)) _ _ _)); (first | (k_unfold; (try dsimp only)) | walk1 | (dsimp only; walk1)))
          (rename Fr _ _ _ _ => kF); (rename News _ _ _ _ => kN)
          k_dflt (refine' my_eq (r := false) (ds := ds9) (es := []) kN ?ya ?yb (hds.mono (by simp)) .nil hok (List.forall_mem_nil _) ?yi ?ye ?_; (case ya => k_mem); (case yb => k_mem); (case yi => ke_room); (case ye => exact iff_of_false (fun e => by rw [e] at hdl; simp at hdl) Bool.false_ne_true); k_whole)
          clear hds hok hdl ds9
          have kN9 := cb_drop (news := (lc, W.listOf cvs.toArray (nc + 1)) :: (ln, W.listOf nvs.toArray (nn + 1)) :: (I, oI) :: rest) kN (by kd_subs)
          clear kN; have kN := kN9; clear kN9
          obtain ⟨nvs, tg2, cvs, vg2, rfl, rfl, hst3, hvg2, hwg2⟩ := hst2.pop
          rw [total_cons] at htot
          simp only [List.length_append, List.length_cons, List.length_nil] at hlN hlC hlen hg16
          have hxg2 : (S (txt g2)).length ≤ 10000 := by rw [S_len]; omega
          have hzg2 := wf_size hwg2
          have hkg2 := wf_runsOk hwg2
          repeat' ((fail_if_success (with_reducible show wpAny _ _ (call (Value.builtin "list.pop") _) _ _ _)); (first | (k_unfold; (try dsimp only)) | walk1 | (dsimp only; walk1)))
          (rename Fr _ _ _ _ => kF); (rename News _ _ _ _ => kN)
          refine my_pop2 kF kN (a := ln) (rest := (I, oI) :: (lc, W.listOf (cvs ++ [vg2]).toArray (nc + 1)) :: rest) (by k_mem) O.offN (by kd_subs) (by omega) ?_
          clear kF kN; intro h9 kF kN
          have kN9 := cb_drop (news := (lc, W.listOf (cvs ++ [vg2]).toArray (nc + 1)) :: (ln, W.listOf nvs.toArray (nn + 1 + 1)) :: (I, oI) :: rest) kN (by kd_subs)
          clear kN; have kN := kN9; clear kN9
          repeat' ((fail_if_success (with_reducible show wpAny _ _ (call (Value.ref 35) [_, _]) _ _ _)); (first | (k_unfold; (try dsimp only)) | walk1 | (dsimp only; walk1)))
          (rename Fr _ _ _ _ => kF); (rename News _ _ _ _ => kN)
          (k_dflt (refine' Tel.use ?B ?F ?X ?N ?T ?hk (append_tel hxg2 hxg (fun _ => no_iso hwg2)) ?hd ?hu ?_; (case F => exact kF); (case N => exact kN); (case B => exact B0); (case X => k_asm); (case T => k_asm); (case hk => exact rfl);  (case hd => decide); (case hu => decide)))
          clear kF kN; intro r9 tl9 h9 tk9 kF kN ord9 out9; (try simp only [List.nil_append, List.cons_append, List.append_nil, List.append_assoc] at kN); (try simp only [List.nil_append, List.cons_append, List.append_nil, List.append_assoc] at out9)
          obtain ⟨R1, hs1, O1, kN1, hp1⟩ := settle (oc := W.listOf (cvs ++ [vg2]).toArray (nc + 1)) (on := W.listOf nvs.toArray (nn + 1 + 1)) O kN (by ktr_rel)
          clear kN; (have kN := kN1); clear kN1
          replace hs := fun p hp => hs1 p (hs p hp)
          clear ord9
          obtain ⟨t9, rfl⟩ := out9
          replace hvg := hvg.mono hs1
          replace hvg2 := hvg2.mono hs1
          repeat' ((fail_if_success (with_reducible show wpAny _ _ (call (Value.builtin "list.pop") _) _ _ _)); (first | (k_unfold; (try dsimp only)) | walk1 | (dsimp only; walk1)))
          (rename Fr _ _ _ _ => kF); (rename News _ _ _ _ => kN)
          refine my_pop2 kF kN (a := lc) (rest := (ln, W.listOf nvs.toArray (nn + 1 + 1)) :: (I, oI) :: R1) (by k_mem) O1.offC (by kd_subs) (by omega) ?_
          clear kF kN; intro h9 kF kN
          repeat' ((fail_if_success (with_reducible show wpAny _ _ (call (Value.ref 259) [_, _]) _ _ _)); (first | (k_unfold; (try dsimp only)) | walk1 | (dsimp only; walk1)))
          (rename Fr _ _ _ _ => kF); (rename News _ _ _ _ => kN)
          (k_dflt (refine' Tel.use ?B ?F ?X ?N ?T ?hk (modified_tel (below := g2) (above := g) ?h1 ?h2 ?hz hkg2 hkg) ?hd ?hu ?_; (case F => exact kF); (case N => exact kN); (case B => exact B0); (case X => k_asm); (case T => k_asm); (case hk => exact rfl); (case h1 => tb_rel); (case h2 => tb_rel); (case hz => omega); (case hd => decide); (case hu => decide)))
          clear kF kN; intro r9 tl9 h9 tk9 kF kN ord9 out9; (try simp only [List.nil_append, List.cons_append, List.append_nil, List.append_assoc] at kN); (try simp only [List.nil_append, List.cons_append, List.append_nil, List.append_assoc] at out9)
          obtain ⟨R2, hs2, O2, kN2, hp2⟩ := settle (oc := W.listOf cvs.toArray (nc + 1 + 1)) (on := W.listOf nvs.toArray (nn + 1 + 1)) O1 kN (by ktr_rel)
          clear kN; (have kN := kN2); clear kN2
          replace hs := fun p hp => hs2 p (hs p hp)
          clear ord9
          have hr2 := runs_rest kN (hst3.mono (fun p hp => hs p hp)) hcI mod_ne (out9.mono hp2)
          clear out9
          have hwd : WF (modifiedL g2 g) := wf_mod hwg2 hwg
          have hnm : appendL (S (txt g2)) (S (txt g)) = S (txt (modifiedL g2 g)) := txt_mod hwg2 hwg
          have htd : (txt (modifiedL g2 g)).length ≤ (txt g2).length + (txt g).length + 11 := mod_len hwg2 hwg
          have hz9 := wf_size hwd
          have ht9 := told_size hwd
          have hl9 : (appendL (S (txt g2)) (S (txt g))).length ≤ 1000 := by rw [hnm, S_len]; omega
          have hd9 : ReadsTo (appendL (S (txt g2)) (S (txt g))) (toldL (modifiedL g2 g)) := by rw [hnm]; exact reads_told hwd
          have ho9 := wf_strOk hwd
          repeat' ((fail_if_success (with_reducible show wpAny _ _ (call (Value.ref 240) [_]) _ _ _)); (first | (k_unfold; (try dsimp only)) | walk1 | (dsimp only; walk1)))
          (rename Fr _ _ _ _ => kF); (rename News _ _ _ _ => kN)
          (k_dflt (refine' Tel.use ?B ?F ?X ?N ?T ?hk (read_tel hl9 (by omega) hd9) ?hd ?hu ?_; (case F => exact kF); (case N => exact kN); (case B => exact B0); (case X => k_asm); (case T => k_asm); (case hk => exact rfl);  (case hd => decide); (case hu => decide)))
          clear kF kN; intro r9 tl9 h9 tk9 kF kN ord9 out9; (try simp only [List.nil_append, List.cons_append, List.append_nil, List.append_assoc] at kN); (try simp only [List.nil_append, List.cons_append, List.append_nil, List.append_assoc] at out9)
          obtain ⟨R3, hs3, O3, kN3, hp3⟩ := settle (oc := W.listOf cvs.toArray (nc + 1 + 1)) (on := W.listOf nvs.toArray (nn + 1 + 1)) O2 kN (by ktr_rel)
          clear kN; (have kN := kN3); clear kN3
          replace hs := fun p hp => hs3 p (hs p hp)
          clear ord9
          obtain ⟨ra, rvs9, rn, rfl, hra, hrd⟩ := dlist_inv out9
          replace hra := hp3 _ hra; replace hrd := hrd.mono hp3; clear out9
          replace hr2 := hr2.mono hs3
          repeat' ((fail_if_success (with_reducible show wpAny _ _ (call (Value.ref 247) [_]) _ _ _)); (first | (k_unfold; (try dsimp only)) | walk1 | (dsimp only; walk1)))
          (rename Fr _ _ _ _ => kF); (rename News _ _ _ _ => kN)
          (k_dflt (refine' Tel.use ?B ?F ?X ?N ?T ?hk (told_tel ?hrun hwd.pos ?hsz) ?hd ?hu ?_; (case F => exact kF); (case N => exact kN); (case B => exact B0); (case X => k_asm); (case T => k_asm); (case hk => exact rfl); (case hrun => tb_rel); (case hsz => omega); (case hd => decide); (case hu => decide)))
          clear kF kN; intro r9 tl9 h9 tk9 kF kN ord9 out9; (try simp only [List.nil_append, List.cons_append, List.append_nil, List.append_assoc] at kN); (try simp only [List.nil_append, List.cons_append, List.append_nil, List.append_assoc] at out9)
          obtain ⟨R4, hs4, O4, kN4, hp4⟩ := settle (oc := W.listOf cvs.toArray (nc + 1 + 1)) (on := W.listOf nvs.toArray (nn + 1 + 1)) O3 kN (by ktr_rel)
          clear kN; (have kN := kN4); clear kN4
          replace hs := fun p hp => hs4 p (hs p hp)
          clear ord9
          obtain ⟨ta, tvs9, tn, rfl, hta, htd9⟩ := dlist_inv out9
          replace hta := hp4 _ hta; replace htd9 := htd9.mono hp4; clear out9
          replace hr2 := hr2.mono hs4
          have hs8 : ∀ p ∈ (lc, W.listOf cvs.toArray (nc + 1 + 1)) :: (ln, W.listOf nvs.toArray (nn + 1 + 1)) :: (I, oI) :: R3, p ∈ (lc, W.listOf cvs.toArray (nc + 1 + 1)) :: (ln, W.listOf nvs.toArray (nn + 1 + 1)) :: (I, oI) :: R4 := List.forall_mem_cons.mpr ⟨.head _, List.forall_mem_cons.mpr ⟨.tail _ (.head _), List.forall_mem_cons.mpr ⟨.tail _ (.tail _ (.head _)), fun p hp => .tail _ (.tail _ (.tail _ (hs4 p hp)))⟩⟩⟩
          replace hra := hs8 _ hra; replace hrd := hrd.mono hs8; clear hs8
          repeat' ((fail_if_success (with_reducible show wpAny _ _ (compareOp CmpOp.NotEq (Value.ref _) (Value.ref _)) _ _ _)); (first | (k_unfold; (try dsimp only)) | walk1 | (dsimp only; walk1)))
          (rename Fr _ _ _ _ => kF); (rename News _ _ _ _ => kN)
          k_dflt (refine' my_ne (r := false) kN hra hta hrd htd9 ho9 ho9 ?yi ?ye ?_; (case yi => ke_room); (case ye => simp); k_whole)
          repeat' ((fail_if_success (with_reducible show wpAny _ _ (call (Value.builtin "list.append") _) _ _ _)); (first | (k_unfold; (try dsimp only)) | walk1 | (dsimp only; walk1)))
          (rename Fr _ _ _ _ => kF); (rename News _ _ _ _ => kN)
          refine my_append kF kN (a := ln) (rest := (I, oI) :: (lc, W.listOf cvs.toArray (nc + 1 + 1)) :: R4) (by k_mem) O4.offN (by kd_subs) (by omega) ?_
          clear kF kN; intro h9 kF kN
          repeat' ((fail_if_success (with_reducible show wpAny _ _ (call (Value.builtin "list.append") _) _ _ _)); (first | (k_unfold; (try dsimp only)) | walk1 | (dsimp only; walk1)))
          (rename Fr _ _ _ _ => kF); (rename News _ _ _ _ => kN)
          refine my_append kF kN (a := lc) (rest := (ln, W.listOf (nvs ++ [Value.str (appendL (S (txt g2)) (S (txt g))) t9]).toArray ((nn + 1 + 1) + 1)) :: (I, oI) :: R4) (by k_mem) O4.offC (by kd_subs) (by omega) ?_
          clear kF kN; intro h9 kF kN
          k_steps
          (rename Fr _ _ _ _ => kF); (rename News _ _ _ _ => kN)
          refine law_end kF kN O4 ⟨by with_unfolding_all rfl, by with_unfolding_all rfl, by with_unfolding_all rfl, by with_unfolding_all rfl⟩ (hs _ hD) (hs _ hP) (hs _ hR) (dk_mono hs hdk) (gs := (modifiedL g2 g) :: gs) ?_ (by simp) (by rw [total_cons]; omega) (by simp only [List.length_cons, List.length_nil]; omega)
          rw [hnm]
          exact .push (hst3.mono hs) hr2 hwd
      · rcases gs with _ | ⟨g, gs⟩
        · exact absurd rfl hne
        obtain ⟨nvs, tg, cvs, vg, rfl, rfl, hst2, hvg, hwg⟩ := hst.pop
        rw [total_cons] at htot
        have hxg : (S (txt g)).length ≤ 10000 := by rw [S_len]; omega
        repeat' ((fail_if_success (with_reducible show wpAny _ _ (call (Value.ref 266) [_]) _ _ _)); (first | (k_unfold; (try dsimp only)) | walk1 | (dsimp only; walk1)))
        (rename Fr _ _ _ _ => kF); (rename News _ _ _ _ => kN)
        (k_dflt (refine' Tel0.use ?B ?F ?X ?N ?T ?hk (refused_tel hxg) ?hd ?hu ?_; (case F => exact kF); (case N => exact kN); (case B => exact B0); (case X => k_asm); (case T => k_asm); (case hk => exact rfl);  (case hd => decide); (case hu => decide)))
        clear kF kN; intro r9 tl9 h9 tk9 kF kN ord9 out9; (try simp only [List.nil_append, List.cons_append, List.append_nil, List.append_assoc] at kN); (try simp only [List.nil_append, List.cons_append, List.append_nil, List.append_assoc] at out9)
        obtain ⟨t9, rfl⟩ := out9
        repeat' ((fail_if_success (with_reducible show wpAny _ _ (call (Value.ref 42) [_]) _ _ _)); (first | (k_unfold; (try dsimp only)) | walk1 | (dsimp only; walk1)))
        (rename Fr _ _ _ _ => kF); (rename News _ _ _ _ => kN)
        (rename _ < _ ∧ _ => l9); have l8 := lt_conv kN l9; clear l9
        (k_dflt (refine' Tel.use ?B ?F ?X ?N ?T ?hk (build_nn ?h1) ?hd ?hu ?_; (case F => exact kF); (case N => exact kN); (case B => exact B0); (case X => k_asm); (case T => k_asm); (case hk => exact rfl); (case h1 => k_mem); (case hd => decide); (case hu => decide)))
        clear kF kN; intro r9 tl9 h9 tk9 kF kN ord9 out9; (try simp only [List.nil_append, List.cons_append, List.append_nil, List.append_assoc] at kN); (try simp only [List.nil_append, List.cons_append, List.append_nil, List.append_assoc] at out9)
        obtain ⟨t9, rfl⟩ := out9
        k_steps
        (rename Fr _ _ _ _ => kF); (rename News _ _ _ _ => kN)
        have kx := news_ext (news := (lc, W.listOf (cvs ++ [vg]).toArray nc) :: (ln, W.listOf (nvs ++ [Value.str (S (txt g)) tg]).toArray nn) :: (I, oI) :: rest) kN (by ktr_rel)
        refine law_end (R := rest ++ _) (gs := g :: gs) kF kx.1 (O.grow kx.2.1) ⟨by with_unfolding_all rfl, by with_unfolding_all rfl, by with_unfolding_all rfl, by with_unfolding_all rfl⟩ (List.mem_append_left _ hD) (List.mem_append_left _ hP) (List.mem_append_left _ hR) (dk_mono (fun p hp => List.mem_append_left _ hp) hdk) (hst.mono (fun p hp => List.mem_append_left _ hp)) (by simp) (by rw [total_cons]; omega) (by omega))
end
end Mine
theorem PySem.Challenge.cw_il0204_01_holds : PySem.Challenge.rw_il0204_01.Holds :=
  Mine.law_holds
