import PyProof.Rows.All
import Wide.All
import OpenK.AllK
import Wide.FinOn
import PySem.Challenge.RW_sn0097_01
set_option Elab.async false
set_option maxRecDepth 100000
set_option maxHeartbeats 8000000
set_option compiler.extract_closed false
open PySem PySem.W PyProof.Rows PySem.Calls
namespace Mine
section
open PySem PySem.W PyProof.Rows
noncomputable abbrev sP : Program := PySem.Challenge.rw_sn0097_01.prog
theorem sd1 : namesResolve sP = true := by rw [Fast.te8377067652309620493]; kernel_rfl
theorem sd2 : readsOut sP sP.main.body "vars" = false := by rw [Fast.te13343964577679436407]; kernel_rfl
theorem sd3 : readsOut sP sP.main.body "dir" = false := by rw [Fast.te13343964577679436407]; kernel_rfl
theorem sd4 : readsOut sP sP.main.body "locals" = false := by rw [Fast.te13343964577679436407]; kernel_rfl
theorem sd5 : (!(importedModules sP.main.body).all cThrough.contains) = false := by kernel_rfl
theorem sd6 : noRoadLSs { strict := false, foot := none, bare := [] } sP.main.body = true := by rw [Fast.te8326940854005059898]; kernel_rfl
theorem sd7 : (namesMeet sP sP.main.body fun _ n => attrL n) = true := by rw [Fast.te17119622794617984870, Fast.te17868728402115742887]; kernel_rfl
theorem sd8 : looksOpen sP = true := by
  unfold looksOpen
  rw [sd1, sd5, List.filter_cons, sd2, List.filter_cons, sd3, List.filter_cons, sd4, sd7]
  simp only [Bool.false_eq_true, if_false, List.filter_nil, sd6]
  kernel_rfl
theorem sd9 : PySem.Challenge.rw_sn0097_01.row.wellSaid = true := by
  unfold OpenRow.wellSaid OpenRow.partSaid
  repeat' with_reducible refine look_both ?_ ?_
  exact sd8
  all_goals kernel_rfl
theorem said0 : PySem.Challenge.rw_sn0097_01.wellSaid = true := by
  unfold OpenLaw.wellSaid
  repeat' with_reducible refine look_both ?_ ?_
  exact sd9
  all_goals kernel_rfl
end
noncomputable section
/-- the program's statement at a place -/
noncomputable def stAt (i : Nat) : Stmt := PySem.Challenge.pw_sn0097_01.main.body.getD i (.Pass ⟨0, 0, 0, 0⟩)
noncomputable def fdOf (st : Stmt) (gl : Addr) (dV kV pm cd : Value) : FuncData := match st with
  | .FunctionDef name args body _ _ _ scope _ _ _ => ⟨name, name, args, .stmts body, scope, gl, [], dV, kV, .none, pm, none, cd, .none, 0⟩
  | _ => default
/-- the table's keys and values, out of the dict display -/
noncomputable def b3pairs : List (Int × Str) := match stAt 21 with
  | .Assign _ (.Dict ks vs _) _ => (ks.zip vs).filterMap fun kv => match kv with
    | (some (.Constant (.int i) _ _), .Constant (.str x) _ _) => some (i, x)
    | _ => none
  | _ => []
noncomputable def b3tok (i : Nat) : Nat := if i < 646 then 417 + 3 * i else 2355 + 2 * (i - 646)
noncomputable def b3go : Nat → List (Int × Str) → List DictEntry
  | _, [] => []
  | i, (k, x) :: r => ⟨k, .int k (b3tok i), .str x (b3tok i + 1)⟩ :: b3go (i + 1) r
noncomputable def b3list : List DictEntry := b3go 0 b3pairs
noncomputable def b3sub (j : Nat) : Obj := ⟨.type "dict", none, .dict ((b3list.drop (17 * j)).take 17).toArray (if j = 38 then 4 else 17), #[]⟩
noncomputable def b3main (j : Nat) : Obj := ⟨.type "dict", none, .dict (b3list.take (if j = 38 then 650 else 17 * (j + 1))).toArray (if j = 38 then 650 else 17 * (j + 1)), #[]⟩
noncomputable def kh (P : Params) (x : Str) : Int := PyData.keyHash P x
/-- the module names behind the start-up, in the order of their binding -/
noncomputable def names (P : Params) : List DictEntry := [(.mk (kh P "__doc__") (.str "__doc__" 166) .none), (.mk (kh P "__package__") (.str "__package__" 167) .none), (.mk (kh P "__loader__") (.str "__loader__" 168) (.builtin "__main__.__loader__#opaque")), (.mk (kh P "__spec__") (.str "__spec__" 169) .none), (.mk (kh P "__annotations__") (.str "__annotations__" 170) (.ref 6)), (.mk (kh P "__builtins__") (.str "__builtins__" 171) (.ref 4)), (.mk (kh P "__file__") (.str "__file__" 173) (.str "/claim/cut.py" 172)), (.mk (kh P "__cached__") (.str "__cached__" 174) .none), (.mk (kh P "_MAX_STRING_SIZE") (.str "_MAX_STRING_SIZE" 190) (.int 40 189)), (.mk (kh P "_MOVE_COST") (.str "_MOVE_COST" 192) (.int 2 191)), (.mk (kh P "_CASE_COST") (.str "_CASE_COST" 194) (.int 1 193)), (.mk (kh P "_substitution_cost") (.str "_substitution_cost" 202) (.ref 21)), (.mk (kh P "_levenshtein_distance") (.str "_levenshtein_distance" 222) (.ref 28)), (.mk (kh P "_DIV_LIMIT") (.str "_DIV_LIMIT" 226) (.int 4000 225)), (.mk (kh P "_div2n1n") (.str "_div2n1n" 243) (.ref 35)), (.mk (kh P "_div3n2n") (.str "_div3n2n" 257) (.ref 42)), (.mk (kh P "_int2digits") (.str "_int2digits" 268) (.ref 49)), (.mk (kh P "_digits2int") (.str "_digits2int" 279) (.ref 56)), (.mk (kh P "_divmod_pos") (.str "_divmod_pos" 294) (.ref 63)), (.mk (kh P "int_divmod") (.str "int_divmod" 304) (.ref 70)), (.mk (kh P "bisect_right") (.str "bisect_right" 320) (.ref 79)), (.mk (kh P "insort_left") (.str "insort_left" 333) (.ref 88)), (.mk (kh P "bisect_left") (.str "bisect_left" 347) (.ref 97)), (.mk (kh P "b1_set") (.str "b1_set" 409) (.ref 105)), (.mk (kh P "in_table_b1") (.str "in_table_b1" 416) (.ref 115)), (.mk (kh P "b3_exceptions") (.str "b3_exceptions" 2367) (.ref 116)), (.mk (kh P "map_table_b3") (.str "map_table_b3" 2375) (.ref 161)), (.mk (kh P "_law_hand") (.str "_law_hand" 2383) (.ref 166)), (.mk (kh P "_law_typed") (.str "_law_typed" 2393) (.ref 173)), (.mk (kh P "_law_letters") (.str "_law_letters" 2399) (.ref 178)), (.mk (kh P "_law_numbers") (.str "_law_numbers" 2408) (.ref 185)), (.mk (kh P "_law_written") (.str "_law_written" 2414) (.ref 190)), (.mk (kh P "_law_read") (.str "_law_read" 2420) (.ref 195)), (.mk (kh P "_law_message") (.str "_law_message" 2431) (.ref 202)), (.mk (kh P "law") (.str "law" 2437) (.ref 207))]
noncomputable def o3 (nm : Value) (m ep : Nat) (P : Params) : Obj := ⟨.type "dict", none, .dict (⟨kh P "__name__", .str "__name__" 165, nm⟩ :: (names P).take m).toArray ep, #[]⟩
noncomputable def tabl : List Value := [(.int 5 0), (.int 0 0), (.ref 20), (.int 11 0), (.int 0 0), (.ref 27), (.int 51 0), (.int 0 0), (.ref 34), (.int 67 0), (.int 0 0), (.ref 41), (.int 77 0), (.int 0 0), (.ref 48), (.int 93 0), (.int 0 0), (.ref 55), (.int 102 0), (.int 0 0), (.ref 62), (.int 113 0), (.int 0 0), (.ref 69), (.int 125 0), (.int 0 0), (.ref 78), (.int 145 0), (.int 0 0), (.ref 87), (.int 151 0), (.int 0 0), (.ref 96), (.int 173 0), (.int 0 0), (.ref 114), (.int 176 0), (.int 0 0), (.ref 160), (.int 182 0), (.int 0 0), (.ref 165), (.int 185 0), (.int 0 0), (.ref 172), (.int 191 0), (.int 0 0), (.ref 177), (.int 193 0), (.int 0 0), (.ref 184), (.int 198 0), (.int 0 0), (.ref 189), (.int 207 0), (.int 0 0), (.ref 194), (.int 216 0), (.int 0 0), (.ref 201), (.int 219 0), (.int 0 0), (.ref 206)]
noncomputable def o12 (m : Nat) : Obj := ⟨.none, none, .fields (tabl.take m).toArray, #[]⟩
noncomputable def o11 : Obj := (.mk (.type "tuple") none (.seq #[] 0) #[])
noncomputable def o13 : Obj := (.mk (.type "code") none (.fields #[(.str "<module>" 182), (.str "<module>" 183), (.str "/claim/cut.py" 184), (.int 1 0), (.int 0 0), (.int 0 0), (.int 0 0), (.int 0 0), (.ref 11), (.bool .false), (.int 181 0), (.ref 12), .none, .none, .none, .none, (.int 185 0), (.int 1 0), (.str "/claim/cut.py" 186)]) #[])
noncomputable def o14 : Obj := (.mk (.type "frame") none .plain #[(some (.ref 13)), (some (.ref 3)), (some (.ref 3)), none, (some (.str "__main__" 164)), none, (some (.ref 0))])
noncomputable def o15 : Obj := (.mk (.type "tuple") none (.seq #[] 0) #[])
noncomputable def o16 : Obj := (.mk .none none (.fields #[]) #[])
noncomputable def o17 : Obj := (.mk (.type "tuple") none (.seq #[(.str "ch_a" 198), (.str "ch_b" 199)] 0) #[])
noncomputable def o18 : Obj := (.mk (.type "tuple") none (.seq #[] 0) #[])
noncomputable def o19 : Obj := ⟨.none, none, .func (fdOf (stAt 4) 0 .none .none .none .none), #[]⟩
noncomputable def o20 : Obj := (.mk (.type "code") none (.fields #[(.str "_substitution_cost" 195), (.str "_substitution_cost" 196), (.str "/claim/cut.py" 197), (.int 5 0), (.int 2 0), (.int 0 0), (.int 0 0), (.int 3 0), (.ref 15), (.bool .true), (.int 181 0), (.ref 16), .none, (.ref 17), (.ref 18), (.ref 19), (.int 200 0), (.int 5 0), (.str "/claim/cut.py" 201)]) #[])
noncomputable def o21 : Obj := ⟨(.type "function"), none, .func (fdOf (stAt 4) 3 .none .none (.str "cpy313.traceback" 187) (.ref 20)), #[]⟩
noncomputable def o22 : Obj := (.mk (.type "tuple") none (.seq #[] 0) #[])
noncomputable def o23 : Obj := (.mk .none none (.fields #[]) #[])
noncomputable def o24 : Obj := (.mk (.type "tuple") none (.seq #[(.str "a" 206), (.str "b" 207), (.str "max_cost" 208), (.str "pre" 209), (.str "post" 210), (.str "row" 211), (.str "result" 212), (.str "bindex" 213), (.str "bchar" 214), (.str "distance" 215), (.str "minimum" 216), (.str "index" 217), (.str "substitute" 218), (.str "insert_delete" 219)] 0) #[])
noncomputable def o25 : Obj := (.mk (.type "tuple") none (.seq #[] 0) #[])
noncomputable def o26 : Obj := ⟨.none, none, .func (fdOf (stAt 5) 0 .none .none .none .none), #[]⟩
noncomputable def o27 : Obj := (.mk (.type "code") none (.fields #[(.str "_levenshtein_distance" 203), (.str "_levenshtein_distance" 204), (.str "/claim/cut.py" 205), (.int 11 0), (.int 3 0), (.int 0 0), (.int 0 0), (.int 3 0), (.ref 22), (.bool .true), (.int 181 0), (.ref 23), .none, (.ref 24), (.ref 25), (.ref 26), (.int 220 0), (.int 11 0), (.str "/claim/cut.py" 221)]) #[])
noncomputable def o28 : Obj := ⟨(.type "function"), none, .func (fdOf (stAt 5) 3 .none .none (.str "cpy313.traceback" 187) (.ref 27)), #[]⟩
noncomputable def o29 : Obj := (.mk (.type "tuple") none (.seq #[] 0) #[])
noncomputable def o30 : Obj := (.mk .none none (.fields #[]) #[])
noncomputable def o31 : Obj := (.mk (.type "tuple") none (.seq #[(.str "a" 230), (.str "b" 231), (.str "n" 232), (.str "pad" 233), (.str "half_n" 234), (.str "mask" 235), (.str "b1" 236), (.str "b2" 237), (.str "q1" 238), (.str "r" 239), (.str "q2" 240)] 0) #[])
noncomputable def o32 : Obj := (.mk (.type "tuple") none (.seq #[] 0) #[])
noncomputable def o33 : Obj := ⟨.none, none, .func (fdOf (stAt 8) 0 .none .none .none .none), #[]⟩
noncomputable def o34 : Obj := (.mk (.type "code") none (.fields #[(.str "_div2n1n" 227), (.str "_div2n1n" 228), (.str "/claim/cut.py" 229), (.int 51 0), (.int 3 0), (.int 0 0), (.int 0 0), (.int 3 0), (.ref 29), (.bool .true), (.int 181 0), (.ref 30), .none, (.ref 31), (.ref 32), (.ref 33), (.int 241 0), (.int 51 0), (.str "/claim/cut.py" 242)]) #[])
noncomputable def o35 : Obj := ⟨(.type "function"), none, .func (fdOf (stAt 8) 3 .none .none (.str "cpy313._pylong" 223) (.ref 34)), #[]⟩
noncomputable def o36 : Obj := (.mk (.type "tuple") none (.seq #[] 0) #[])
noncomputable def o37 : Obj := (.mk .none none (.fields #[]) #[])
noncomputable def o38 : Obj := (.mk (.type "tuple") none (.seq #[(.str "a12" 247), (.str "a3" 248), (.str "b" 249), (.str "b1" 250), (.str "b2" 251), (.str "n" 252), (.str "q" 253), (.str "r" 254)] 0) #[])
noncomputable def o39 : Obj := (.mk (.type "tuple") none (.seq #[] 0) #[])
noncomputable def o40 : Obj := ⟨.none, none, .func (fdOf (stAt 9) 0 .none .none .none .none), #[]⟩
noncomputable def o41 : Obj := (.mk (.type "code") none (.fields #[(.str "_div3n2n" 244), (.str "_div3n2n" 245), (.str "/claim/cut.py" 246), (.int 67 0), (.int 6 0), (.int 0 0), (.int 0 0), (.int 3 0), (.ref 36), (.bool .true), (.int 181 0), (.ref 37), .none, (.ref 38), (.ref 39), (.ref 40), (.int 255 0), (.int 67 0), (.str "/claim/cut.py" 256)]) #[])
noncomputable def o42 : Obj := ⟨(.type "function"), none, .func (fdOf (stAt 9) 3 .none .none (.str "cpy313._pylong" 223) (.ref 41)), #[]⟩
noncomputable def o43 : Obj := (.mk (.type "tuple") none (.seq #[] 0) #[])
noncomputable def o44 : Obj := (.mk .none none (.fields #[]) #[])
noncomputable def o45 : Obj := (.mk (.type "tuple") none (.seq #[(.str "a" 261), (.str "n" 262)] 0) #[])
noncomputable def o46 : Obj := (.mk (.type "tuple") none (.seq #[(.str "n" 263), (.str "a_digits" 264), (.str "inner" 265)] 0) #[])
noncomputable def o47 : Obj := ⟨.none, none, .func (fdOf (stAt 10) 0 .none .none .none .none), #[]⟩
noncomputable def o48 : Obj := (.mk (.type "code") none (.fields #[(.str "_int2digits" 258), (.str "_int2digits" 259), (.str "/claim/cut.py" 260), (.int 77 0), (.int 2 0), (.int 0 0), (.int 0 0), (.int 3 0), (.ref 43), (.bool .true), (.int 181 0), (.ref 44), .none, (.ref 45), (.ref 46), (.ref 47), (.int 266 0), (.int 77 0), (.str "/claim/cut.py" 267)]) #[])
noncomputable def o49 : Obj := ⟨(.type "function"), none, .func (fdOf (stAt 10) 3 .none .none (.str "cpy313._pylong" 223) (.ref 48)), #[]⟩
noncomputable def o50 : Obj := (.mk (.type "tuple") none (.seq #[] 0) #[])
noncomputable def o51 : Obj := (.mk .none none (.fields #[]) #[])
noncomputable def o52 : Obj := (.mk (.type "tuple") none (.seq #[(.str "digits" 272), (.str "n" 273)] 0) #[])
noncomputable def o53 : Obj := (.mk (.type "tuple") none (.seq #[(.str "digits" 274), (.str "n" 275), (.str "inner" 276)] 0) #[])
noncomputable def o54 : Obj := ⟨.none, none, .func (fdOf (stAt 11) 0 .none .none .none .none), #[]⟩
noncomputable def o55 : Obj := (.mk (.type "code") none (.fields #[(.str "_digits2int" 269), (.str "_digits2int" 270), (.str "/claim/cut.py" 271), (.int 93 0), (.int 2 0), (.int 0 0), (.int 0 0), (.int 3 0), (.ref 50), (.bool .true), (.int 181 0), (.ref 51), .none, (.ref 52), (.ref 53), (.ref 54), (.int 277 0), (.int 93 0), (.str "/claim/cut.py" 278)]) #[])
noncomputable def o56 : Obj := ⟨(.type "function"), none, .func (fdOf (stAt 11) 3 .none .none (.str "cpy313._pylong" 223) (.ref 55)), #[]⟩
noncomputable def o57 : Obj := (.mk (.type "tuple") none (.seq #[] 0) #[])
noncomputable def o58 : Obj := (.mk .none none (.fields #[]) #[])
noncomputable def o59 : Obj := (.mk (.type "tuple") none (.seq #[(.str "a" 283), (.str "b" 284), (.str "n" 285), (.str "a_digits" 286), (.str "r" 287), (.str "q_digits" 288), (.str "a_digit" 289), (.str "q_digit" 290), (.str "q" 291)] 0) #[])
noncomputable def o60 : Obj := (.mk (.type "tuple") none (.seq #[] 0) #[])
noncomputable def o61 : Obj := ⟨.none, none, .func (fdOf (stAt 12) 0 .none .none .none .none), #[]⟩
noncomputable def o62 : Obj := (.mk (.type "code") none (.fields #[(.str "_divmod_pos" 280), (.str "_divmod_pos" 281), (.str "/claim/cut.py" 282), (.int 102 0), (.int 2 0), (.int 0 0), (.int 0 0), (.int 3 0), (.ref 57), (.bool .true), (.int 181 0), (.ref 58), .none, (.ref 59), (.ref 60), (.ref 61), (.int 292 0), (.int 102 0), (.str "/claim/cut.py" 293)]) #[])
noncomputable def o63 : Obj := ⟨(.type "function"), none, .func (fdOf (stAt 12) 3 .none .none (.str "cpy313._pylong" 223) (.ref 62)), #[]⟩
noncomputable def o64 : Obj := (.mk (.type "tuple") none (.seq #[] 0) #[])
noncomputable def o65 : Obj := (.mk .none none (.fields #[]) #[])
noncomputable def o66 : Obj := (.mk (.type "tuple") none (.seq #[(.str "a" 298), (.str "b" 299), (.str "q" 300), (.str "r" 301)] 0) #[])
noncomputable def o67 : Obj := (.mk (.type "tuple") none (.seq #[] 0) #[])
noncomputable def o68 : Obj := ⟨.none, none, .func (fdOf (stAt 13) 0 .none .none .none .none), #[]⟩
noncomputable def o69 : Obj := (.mk (.type "code") none (.fields #[(.str "int_divmod" 295), (.str "int_divmod" 296), (.str "/claim/cut.py" 297), (.int 113 0), (.int 2 0), (.int 0 0), (.int 0 0), (.int 3 0), (.ref 64), (.bool .true), (.int 181 0), (.ref 65), .none, (.ref 66), (.ref 67), (.ref 68), (.int 302 0), (.int 113 0), (.str "/claim/cut.py" 303)]) #[])
noncomputable def o70 : Obj := ⟨(.type "function"), none, .func (fdOf (stAt 13) 3 .none .none (.str "cpy313._pylong" 223) (.ref 69)), #[]⟩
noncomputable def o71 : Obj := (.mk (.type "tuple") none (.seq #[(.int 0 307), .none] 0) #[])
noncomputable def o72 (P : Params) : Obj := (.mk (.type "dict") none (.dict #[(.mk (kh P "key") (.str "key" 308) .none)] 1) #[])
noncomputable def o73 : Obj := (.mk (.type "tuple") none (.seq #[] 0) #[])
noncomputable def o74 : Obj := (.mk .none none (.fields #[]) #[])
noncomputable def o75 : Obj := (.mk (.type "tuple") none (.seq #[(.str "a" 312), (.str "x" 313), (.str "lo" 314), (.str "hi" 315), (.str "key" 316), (.str "mid" 317)] 0) #[])
noncomputable def o76 : Obj := (.mk (.type "tuple") none (.seq #[] 0) #[])
noncomputable def o77 : Obj := ⟨.none, none, .func (fdOf (stAt 15) 0 .none .none .none .none), #[]⟩
noncomputable def o78 : Obj := (.mk (.type "code") none (.fields #[(.str "bisect_right" 309), (.str "bisect_right" 310), (.str "/claim/cut.py" 311), (.int 125 0), (.int 4 0), (.int 0 0), (.int 1 0), (.int 3 0), (.ref 73), (.bool .true), (.int 181 0), (.ref 74), .none, (.ref 75), (.ref 76), (.ref 77), (.int 318 0), (.int 125 0), (.str "/claim/cut.py" 319)]) #[])
noncomputable def o79 : Obj := ⟨(.type "function"), none, .func (fdOf (stAt 15) 3 (.ref 71) (.ref 72) (.str "cpy313.bisect" 305) (.ref 78)), #[]⟩
noncomputable def o80 : Obj := (.mk (.type "tuple") none (.seq #[(.int 0 321), .none] 0) #[])
noncomputable def o81 (P : Params) : Obj := (.mk (.type "dict") none (.dict #[(.mk (kh P "key") (.str "key" 322) .none)] 1) #[])
noncomputable def o82 : Obj := (.mk (.type "tuple") none (.seq #[] 0) #[])
noncomputable def o83 : Obj := (.mk .none none (.fields #[]) #[])
noncomputable def o84 : Obj := (.mk (.type "tuple") none (.seq #[(.str "a" 326), (.str "x" 327), (.str "lo" 328), (.str "hi" 329), (.str "key" 330)] 0) #[])
noncomputable def o85 : Obj := (.mk (.type "tuple") none (.seq #[] 0) #[])
noncomputable def o86 : Obj := ⟨.none, none, .func (fdOf (stAt 16) 0 .none .none .none .none), #[]⟩
noncomputable def o87 : Obj := (.mk (.type "code") none (.fields #[(.str "insort_left" 323), (.str "insort_left" 324), (.str "/claim/cut.py" 325), (.int 145 0), (.int 4 0), (.int 0 0), (.int 1 0), (.int 3 0), (.ref 82), (.bool .true), (.int 181 0), (.ref 83), .none, (.ref 84), (.ref 85), (.ref 86), (.int 331 0), (.int 145 0), (.str "/claim/cut.py" 332)]) #[])
noncomputable def o88 : Obj := ⟨(.type "function"), none, .func (fdOf (stAt 16) 3 (.ref 80) (.ref 81) (.str "cpy313.bisect" 305) (.ref 87)), #[]⟩
noncomputable def o89 : Obj := (.mk (.type "tuple") none (.seq #[(.int 0 334), .none] 0) #[])
noncomputable def o90 (P : Params) : Obj := (.mk (.type "dict") none (.dict #[(.mk (kh P "key") (.str "key" 335) .none)] 1) #[])
noncomputable def o91 : Obj := (.mk (.type "tuple") none (.seq #[] 0) #[])
noncomputable def o92 : Obj := (.mk .none none (.fields #[]) #[])
noncomputable def o93 : Obj := (.mk (.type "tuple") none (.seq #[(.str "a" 339), (.str "x" 340), (.str "lo" 341), (.str "hi" 342), (.str "key" 343), (.str "mid" 344)] 0) #[])
noncomputable def o94 : Obj := (.mk (.type "tuple") none (.seq #[] 0) #[])
noncomputable def o95 : Obj := ⟨.none, none, .func (fdOf (stAt 17) 0 .none .none .none .none), #[]⟩
noncomputable def o96 : Obj := (.mk (.type "code") none (.fields #[(.str "bisect_left" 336), (.str "bisect_left" 337), (.str "/claim/cut.py" 338), (.int 151 0), (.int 4 0), (.int 0 0), (.int 1 0), (.int 3 0), (.ref 91), (.bool .true), (.int 181 0), (.ref 92), .none, (.ref 93), (.ref 94), (.ref 95), (.int 345 0), (.int 151 0), (.str "/claim/cut.py" 346)]) #[])
noncomputable def o97 : Obj := ⟨(.type "function"), none, .func (fdOf (stAt 17) 3 (.ref 89) (.ref 90) (.str "cpy313.bisect" 305) (.ref 96)), #[]⟩
noncomputable def o98 : Obj := (.mk (.type "list") none (.seq #[(.int 173 350), (.int 847 351), (.int 6150 352), (.int 6155 353), (.int 6156 354), (.int 6157 355), (.int 8203 356), (.int 8204 357), (.int 8205 358), (.int 8288 359), (.int 65279 360)] 0) #[])
noncomputable def o99 : Obj := (.mk (.type "range") none (.fields #[(.int 65024 361), (.int 65040 362), (.int 1 363)]) #[])
noncomputable def o100 : Obj := (.mk (.type "list") none (.seq #[(.int 65024 366), (.int 65025 367), (.int 65026 368), (.int 65027 369), (.int 65028 370), (.int 65029 371), (.int 65030 372), (.int 65031 373), (.int 65032 374), (.int 65033 375), (.int 65034 376), (.int 65035 377), (.int 65036 378), (.int 65037 379), (.int 65038 380), (.int 65039 381)] 18) #[])
noncomputable def o101 : Obj := (.mk (.type "range_iterator") none (.fields #[(.int 65040 0), (.int 0 0), (.int 1 0)]) #[])
noncomputable def o102 : Obj := (.mk (.type "tuple") none (.seq #[] 0) #[])
noncomputable def o103 : Obj := (.mk (.type "StopIteration") none (.fields #[(.ref 102), .none, .none, .none, (.bool .false), .none]) #[])
noncomputable def o104 : Obj := (.mk (.type "list") none (.seq #[(.int 173 350), (.int 847 351), (.int 6150 352), (.int 6155 353), (.int 6156 354), (.int 6157 355), (.int 8203 356), (.int 8204 357), (.int 8205 358), (.int 8288 359), (.int 65279 360), (.int 65024 366), (.int 65025 367), (.int 65026 368), (.int 65027 369), (.int 65028 370), (.int 65029 371), (.int 65030 372), (.int 65031 373), (.int 65032 374), (.int 65033 375), (.int 65034 376), (.int 65035 377), (.int 65036 378), (.int 65037 379), (.int 65038 380), (.int 65039 381)] 0) #[])
noncomputable def o105 (P : Params) : Obj := (.mk (.type "set") none (.set #[(65024, (.int 65024 366)), (65025, (.int 65025 367)), (65026, (.int 65026 368)), (65027, (.int 65027 369)), (65028, (.int 65028 370)), (65029, (.int 65029 371)), (6150, (.int 6150 352)), (65030, (.int 65030 372)), (65031, (.int 65031 373)), (65032, (.int 65032 374)), (65033, (.int 65033 375)), (6155, (.int 6155 353)), (6156, (.int 6156 354)), (6157, (.int 6157 355)), (8203, (.int 8203 356)), (8204, (.int 8204 357)), (8205, (.int 8205 358)), (65034, (.int 65034 376)), (65035, (.int 65035 377)), (65036, (.int 65036 378)), (65037, (.int 65037 379)), (65038, (.int 65038 380)), (65039, (.int 65039 381)), (173, (.int 173 350)), (847, (.int 847 351)), (8288, (.int 8288 359)), (65279, (.int 65279 360))] 29 (.mk 127 #[0, 1, 2, 3, 4, 5, 6, 7, 8, 9, 10, 11, 12, 13, 14, 15, 16, 17, 18, 19, 20, 21, 22, 45, 79, 96, 127] #[] 0 (!P.followText "set-order") 2 .true)) #[])
noncomputable def o106 : Obj := (.mk (.type "list_iterator") none (.fields #[.none, (.int 27 0)]) #[])
noncomputable def o107 : Obj := (.mk (.type "tuple") none (.seq #[] 0) #[])
noncomputable def o108 : Obj := (.mk (.type "StopIteration") none (.fields #[(.ref 107), .none, .none, .none, (.bool .false), .none]) #[])
noncomputable def o109 : Obj := (.mk (.type "tuple") none (.seq #[] 0) #[])
noncomputable def o110 : Obj := (.mk .none none (.fields #[]) #[])
noncomputable def o111 : Obj := (.mk (.type "tuple") none (.seq #[(.str "code" 413)] 0) #[])
noncomputable def o112 : Obj := (.mk (.type "tuple") none (.seq #[] 0) #[])
noncomputable def o113 : Obj := ⟨.none, none, .func (fdOf (stAt 20) 0 .none .none .none .none), #[]⟩
noncomputable def o114 : Obj := (.mk (.type "code") none (.fields #[(.str "in_table_b1" 410), (.str "in_table_b1" 411), (.str "/claim/cut.py" 412), (.int 173 0), (.int 1 0), (.int 0 0), (.int 0 0), (.int 3 0), (.ref 109), (.bool .true), (.int 181 0), (.ref 110), .none, (.ref 111), (.ref 112), (.ref 113), (.int 414 0), (.int 173 0), (.str "/claim/cut.py" 415)]) #[])
noncomputable def o115 : Obj := ⟨(.type "function"), none, .func (fdOf (stAt 20) 3 .none .none (.str "cpy313.stringprep" 348) (.ref 114)), #[]⟩
noncomputable def o155 : Obj := (.mk (.type "tuple") none (.seq #[] 0) #[])
noncomputable def o156 : Obj := (.mk .none none (.fields #[]) #[])
noncomputable def o157 : Obj := (.mk (.type "tuple") none (.seq #[(.str "code" 2371), (.str "r" 2372)] 0) #[])
noncomputable def o158 : Obj := (.mk (.type "tuple") none (.seq #[] 0) #[])
noncomputable def o159 : Obj := ⟨.none, none, .func (fdOf (stAt 22) 0 .none .none .none .none), #[]⟩
noncomputable def o160 : Obj := (.mk (.type "code") none (.fields #[(.str "map_table_b3" 2368), (.str "map_table_b3" 2369), (.str "/claim/cut.py" 2370), (.int 176 0), (.int 1 0), (.int 0 0), (.int 0 0), (.int 3 0), (.ref 155), (.bool .true), (.int 181 0), (.ref 156), .none, (.ref 157), (.ref 158), (.ref 159), (.int 2373 0), (.int 176 0), (.str "/claim/cut.py" 2374)]) #[])
noncomputable def o161 : Obj := ⟨(.type "function"), none, .func (fdOf (stAt 22) 3 .none .none (.str "cpy313.stringprep" 348) (.ref 160)), #[]⟩
noncomputable def o162 : Obj := (.mk (.type "tuple") none (.seq #[] 0) #[])
noncomputable def o163 : Obj := (.mk .none none (.fields #[]) #[])
noncomputable def o164 : Obj := ⟨.none, none, .func (fdOf (stAt 24) 0 .none .none .none .none), #[]⟩
noncomputable def o165 : Obj := (.mk (.type "code") none (.fields #[(.str "_law_hand" 2378), (.str "_law_hand" 2379), (.str "/claim/cut.py" 2380), (.int 182 0), (.int 1 0), (.int 0 0), (.int 0 0), (.int 3 0), (.ref 162), (.bool .true), (.int 181 0), (.ref 163), .none, .none, .none, (.ref 164), (.int 2381 0), (.int 182 0), (.str "/claim/cut.py" 2382)]) #[])
noncomputable def o166 : Obj := ⟨(.type "function"), none, .func (fdOf (stAt 24) 3 .none .none (.str "law_sn0097_01" 2376) (.ref 165)), #[]⟩
noncomputable def o167 : Obj := (.mk (.type "tuple") none (.seq #[] 0) #[])
noncomputable def o168 : Obj := (.mk .none none (.fields #[]) #[])
noncomputable def o169 : Obj := (.mk (.type "tuple") none (.seq #[(.str "numbers" 2387), (.str "turn" 2388), (.str "typed" 2389), (.str "number" 2390)] 0) #[])
noncomputable def o170 : Obj := (.mk (.type "tuple") none (.seq #[] 0) #[])
noncomputable def o171 : Obj := ⟨.none, none, .func (fdOf (stAt 25) 0 .none .none .none .none), #[]⟩
noncomputable def o172 : Obj := (.mk (.type "code") none (.fields #[(.str "_law_typed" 2384), (.str "_law_typed" 2385), (.str "/claim/cut.py" 2386), (.int 185 0), (.int 2 0), (.int 0 0), (.int 0 0), (.int 3 0), (.ref 167), (.bool .true), (.int 181 0), (.ref 168), .none, (.ref 169), (.ref 170), (.ref 171), (.int 2391 0), (.int 185 0), (.str "/claim/cut.py" 2392)]) #[])
noncomputable def o173 : Obj := ⟨(.type "function"), none, .func (fdOf (stAt 25) 3 .none .none (.str "law_sn0097_01" 2376) (.ref 172)), #[]⟩
noncomputable def o174 : Obj := (.mk (.type "tuple") none (.seq #[] 0) #[])
noncomputable def o175 : Obj := (.mk .none none (.fields #[]) #[])
noncomputable def o176 : Obj := ⟨.none, none, .func (fdOf (stAt 26) 0 .none .none .none .none), #[]⟩
noncomputable def o177 : Obj := (.mk (.type "code") none (.fields #[(.str "_law_letters" 2394), (.str "_law_letters" 2395), (.str "/claim/cut.py" 2396), (.int 191 0), (.int 1 0), (.int 0 0), (.int 0 0), (.int 3 0), (.ref 174), (.bool .true), (.int 181 0), (.ref 175), .none, .none, .none, (.ref 176), (.int 2397 0), (.int 191 0), (.str "/claim/cut.py" 2398)]) #[])
noncomputable def o178 : Obj := ⟨(.type "function"), none, .func (fdOf (stAt 26) 3 .none .none (.str "law_sn0097_01" 2376) (.ref 177)), #[]⟩
noncomputable def o179 : Obj := (.mk (.type "tuple") none (.seq #[] 0) #[])
noncomputable def o180 : Obj := (.mk .none none (.fields #[]) #[])
noncomputable def o181 : Obj := (.mk (.type "tuple") none (.seq #[(.str "typed" 2403), (.str "row" 2404), (.str "letter" 2405)] 0) #[])
noncomputable def o182 : Obj := (.mk (.type "tuple") none (.seq #[] 0) #[])
noncomputable def o183 : Obj := ⟨.none, none, .func (fdOf (stAt 27) 0 .none .none .none .none), #[]⟩
noncomputable def o184 : Obj := (.mk (.type "code") none (.fields #[(.str "_law_numbers" 2400), (.str "_law_numbers" 2401), (.str "/claim/cut.py" 2402), (.int 193 0), (.int 1 0), (.int 0 0), (.int 0 0), (.int 3 0), (.ref 179), (.bool .true), (.int 181 0), (.ref 180), .none, (.ref 181), (.ref 182), (.ref 183), (.int 2406 0), (.int 193 0), (.str "/claim/cut.py" 2407)]) #[])
noncomputable def o185 : Obj := ⟨(.type "function"), none, .func (fdOf (stAt 27) 3 .none .none (.str "law_sn0097_01" 2376) (.ref 184)), #[]⟩
noncomputable def o186 : Obj := (.mk (.type "tuple") none (.seq #[] 0) #[])
noncomputable def o187 : Obj := (.mk .none none (.fields #[]) #[])
noncomputable def o188 : Obj := ⟨.none, none, .func (fdOf (stAt 28) 0 .none .none .none .none), #[]⟩
noncomputable def o189 : Obj := (.mk (.type "code") none (.fields #[(.str "_law_written" 2409), (.str "_law_written" 2410), (.str "/claim/cut.py" 2411), (.int 198 0), (.int 2 0), (.int 0 0), (.int 0 0), (.int 3 0), (.ref 186), (.bool .true), (.int 181 0), (.ref 187), .none, .none, .none, (.ref 188), (.int 2412 0), (.int 198 0), (.str "/claim/cut.py" 2413)]) #[])
noncomputable def o190 : Obj := ⟨(.type "function"), none, .func (fdOf (stAt 28) 3 .none .none (.str "law_sn0097_01" 2376) (.ref 189)), #[]⟩
noncomputable def o191 : Obj := (.mk (.type "tuple") none (.seq #[] 0) #[])
noncomputable def o192 : Obj := (.mk .none none (.fields #[]) #[])
noncomputable def o193 : Obj := ⟨.none, none, .func (fdOf (stAt 29) 0 .none .none .none .none), #[]⟩
noncomputable def o194 : Obj := (.mk (.type "code") none (.fields #[(.str "_law_read" 2415), (.str "_law_read" 2416), (.str "/claim/cut.py" 2417), (.int 207 0), (.int 1 0), (.int 0 0), (.int 0 0), (.int 3 0), (.ref 191), (.bool .true), (.int 181 0), (.ref 192), .none, .none, .none, (.ref 193), (.int 2418 0), (.int 207 0), (.str "/claim/cut.py" 2419)]) #[])
noncomputable def o195 : Obj := ⟨(.type "function"), none, .func (fdOf (stAt 29) 3 .none .none (.str "law_sn0097_01" 2376) (.ref 194)), #[]⟩
noncomputable def o196 : Obj := (.mk (.type "tuple") none (.seq #[] 0) #[])
noncomputable def o197 : Obj := (.mk .none none (.fields #[]) #[])
noncomputable def o198 : Obj := (.mk (.type "tuple") none (.seq #[(.str "low" 2424), (.str "high" 2425), (.str "number" 2426), (.str "veil" 2427), (.str "signs" 2428)] 0) #[])
noncomputable def o199 : Obj := (.mk (.type "tuple") none (.seq #[] 0) #[])
noncomputable def o200 : Obj := ⟨.none, none, .func (fdOf (stAt 30) 0 .none .none .none .none), #[]⟩
noncomputable def o201 : Obj := (.mk (.type "code") none (.fields #[(.str "_law_message" 2421), (.str "_law_message" 2422), (.str "/claim/cut.py" 2423), (.int 216 0), (.int 4 0), (.int 0 0), (.int 0 0), (.int 3 0), (.ref 196), (.bool .true), (.int 181 0), (.ref 197), .none, (.ref 198), (.ref 199), (.ref 200), (.int 2429 0), (.int 216 0), (.str "/claim/cut.py" 2430)]) #[])
noncomputable def o202 : Obj := ⟨(.type "function"), none, .func (fdOf (stAt 30) 3 .none .none (.str "law_sn0097_01" 2376) (.ref 201)), #[]⟩
noncomputable def o203 : Obj := (.mk (.type "tuple") none (.seq #[] 0) #[])
noncomputable def o204 : Obj := (.mk .none none (.fields #[]) #[])
noncomputable def o205 : Obj := ⟨.none, none, .func (fdOf (stAt 31) 0 .none .none .none .none), #[]⟩
noncomputable def o206 : Obj := (.mk (.type "code") none (.fields #[(.str "law" 2432), (.str "law" 2433), (.str "/claim/cut.py" 2434), (.int 219 0), (.int 1 0), (.int 0 0), (.int 0 0), (.int 3 0), (.ref 203), (.bool .true), (.int 181 0), (.ref 204), .none, .none, .none, (.ref 205), (.int 2435 0), (.int 219 0), (.str "/claim/cut.py" 2436)]) #[])
noncomputable def o207 : Obj := ⟨(.type "function"), none, .func (fdOf (stAt 31) 3 .none .none (.str "law_sn0097_01" 2376) (.ref 206)), #[]⟩
/-- the part of the heap that the walk knows -/
noncomputable def K (P : Params) : Frag := (nat_lit 2, ⟨.none, none, .dict #[] 0, #[]⟩) :: (nat_lit 3, o3 (.str "law_sn0097_01" 2376) 35 36 P) :: (nat_lit 15, o15) :: (nat_lit 17, o17) :: (nat_lit 18, o18) :: (nat_lit 20, o20) :: (nat_lit 21, o21) :: (nat_lit 22, o22) :: (nat_lit 24, o24) :: (nat_lit 25, o25) :: (nat_lit 27, o27) :: (nat_lit 28, o28) :: (nat_lit 29, o29) :: (nat_lit 31, o31) :: (nat_lit 32, o32) :: (nat_lit 34, o34) :: (nat_lit 35, o35) :: (nat_lit 36, o36) :: (nat_lit 38, o38) :: (nat_lit 39, o39) :: (nat_lit 41, o41) :: (nat_lit 42, o42) :: (nat_lit 43, o43) :: (nat_lit 45, o45) :: (nat_lit 46, o46) :: (nat_lit 48, o48) :: (nat_lit 49, o49) :: (nat_lit 50, o50) :: (nat_lit 52, o52) :: (nat_lit 53, o53) :: (nat_lit 55, o55) :: (nat_lit 56, o56) :: (nat_lit 57, o57) :: (nat_lit 59, o59) :: (nat_lit 60, o60) :: (nat_lit 62, o62) :: (nat_lit 63, o63) :: (nat_lit 64, o64) :: (nat_lit 66, o66) :: (nat_lit 67, o67) :: (nat_lit 69, o69) :: (nat_lit 70, o70) :: (nat_lit 71, o71) :: (nat_lit 72, o72 P) :: (nat_lit 73, o73) :: (nat_lit 75, o75) :: (nat_lit 76, o76) :: (nat_lit 78, o78) :: (nat_lit 79, o79) :: (nat_lit 80, o80) :: (nat_lit 81, o81 P) :: (nat_lit 82, o82) :: (nat_lit 84, o84) :: (nat_lit 85, o85) :: (nat_lit 87, o87) :: (nat_lit 88, o88) :: (nat_lit 89, o89) :: (nat_lit 90, o90 P) :: (nat_lit 91, o91) :: (nat_lit 93, o93) :: (nat_lit 94, o94) :: (nat_lit 96, o96) :: (nat_lit 97, o97) :: (nat_lit 105, o105 P) :: (nat_lit 109, o109) :: (nat_lit 111, o111) :: (nat_lit 112, o112) :: (nat_lit 114, o114) :: (nat_lit 115, o115) :: (nat_lit 116, b3main 38) :: (nat_lit 155, o155) :: (nat_lit 157, o157) :: (nat_lit 158, o158) :: (nat_lit 160, o160) :: (nat_lit 161, o161) :: (nat_lit 162, o162) :: (nat_lit 165, o165) :: (nat_lit 166, o166) :: (nat_lit 167, o167) :: (nat_lit 169, o169) :: (nat_lit 170, o170) :: (nat_lit 172, o172) :: (nat_lit 173, o173) :: (nat_lit 174, o174) :: (nat_lit 177, o177) :: (nat_lit 178, o178) :: (nat_lit 179, o179) :: (nat_lit 181, o181) :: (nat_lit 182, o182) :: (nat_lit 184, o184) :: (nat_lit 185, o185) :: (nat_lit 186, o186) :: (nat_lit 189, o189) :: (nat_lit 190, o190) :: (nat_lit 191, o191) :: (nat_lit 194, o194) :: (nat_lit 195, o195) :: (nat_lit 196, o196) :: (nat_lit 198, o198) :: (nat_lit 199, o199) :: (nat_lit 201, o201) :: (nat_lit 202, o202) :: (nat_lit 203, o203) :: (nat_lit 206, o206) :: (nat_lit 207, o207) :: []
noncomputable def Ks : List Addr := 2 :: 3 :: 15 :: 17 :: 18 :: 20 :: 21 :: 22 :: 24 :: 25 :: 27 :: 28 :: 29 :: 31 :: 32 :: 34 :: 35 :: 36 :: 38 :: 39 :: 41 :: 42 :: 43 :: 45 :: 46 :: 48 :: 49 :: 50 :: 52 :: 53 :: 55 :: 56 :: 57 :: 59 :: 60 :: 62 :: 63 :: 64 :: 66 :: 67 :: 69 :: 70 :: 71 :: 72 :: 73 :: 75 :: 76 :: 78 :: 79 :: 80 :: 81 :: 82 :: 84 :: 85 :: 87 :: 88 :: 89 :: 90 :: 91 :: 93 :: 94 :: 96 :: 97 :: 105 :: 109 :: 111 :: 112 :: 114 :: 115 :: 116 :: 155 :: 157 :: 158 :: 160 :: 161 :: 162 :: 165 :: 166 :: 167 :: 169 :: 170 :: 172 :: 173 :: 174 :: 177 :: 178 :: 179 :: 181 :: 182 :: 184 :: 185 :: 186 :: 189 :: 190 :: 191 :: 194 :: 195 :: 196 :: 198 :: 199 :: 201 :: 202 :: 203 :: 206 :: 207 :: []
end
end Mine
section
open PySem PySem.W PyProof.Rows PySem.Calls
namespace Mine
noncomputable section
noncomputable abbrev hpw : Program := PySem.Challenge.pw_sn0097_01
noncomputable def henv : Env := { scope := hpw.main.scope, locals := mainNs, globals := mainNs, cells := [], code := .ref 13, frame := some 14 }
noncomputable def hcode : Code := .body (behindTheImports hpw) henv
noncomputable abbrev hq : Pos := ⟨0, 0, 0, 0⟩
noncomputable def hlife : Life := .mk [] [] [] 0 [] [] .false #[] [] 0 .false .false .false 0 [2000, 10, 10] .false 0 .true [] [] 0 .false
noncomputable def hst (t : Params → BT) (n toks : Nat) (w : World) (os : OsState) : SharedT := ⟨t w.params, n, hlife, #[], boot_drawn, toks, os⟩
noncomputable def ht0 (P : Params) : BT := (.node (boot_o_0 P) (.node (boot_o_1 P) (.node (o3 (.str "__main__" 164) 8 9 P) (.node (boot_o_7 P) .nil .nil) (.node o11 .nil .nil)) (.node (boot_o_5 P) (.node (boot_o_9 P) .nil .nil) (.node o13 .nil .nil))) (.node (boot_o_2 P) (.node (boot_o_4 P) (.node (boot_o_8 P) .nil .nil) (.node (o12 0) .nil .nil)) (.node (boot_o_6 P) (.node (boot_o_10 P) .nil .nil) (.node o14 .nil .nil))))
noncomputable def ht1 (P : Params) : BT := (.node (boot_o_0 P) (.node (boot_o_1 P) (.node (o3 (.str "cpy313.traceback" 187) 8 9 P) (.node (boot_o_7 P) .nil .nil) (.node o11 .nil .nil)) (.node (boot_o_5 P) (.node (boot_o_9 P) .nil .nil) (.node o13 .nil .nil))) (.node (boot_o_2 P) (.node (boot_o_4 P) (.node (boot_o_8 P) .nil .nil) (.node (o12 0) .nil .nil)) (.node (boot_o_6 P) (.node (boot_o_10 P) .nil .nil) (.node o14 .nil .nil))))
noncomputable def ht2 (P : Params) : BT := (.node (boot_o_0 P) (.node (boot_o_1 P) (.node (o3 (.str "cpy313.traceback" 187) 9 10 P) (.node (boot_o_7 P) .nil .nil) (.node o11 .nil .nil)) (.node (boot_o_5 P) (.node (boot_o_9 P) .nil .nil) (.node o13 .nil .nil))) (.node (boot_o_2 P) (.node (boot_o_4 P) (.node (boot_o_8 P) .nil .nil) (.node (o12 0) .nil .nil)) (.node (boot_o_6 P) (.node (boot_o_10 P) .nil .nil) (.node o14 .nil .nil))))
noncomputable def ht3 (P : Params) : BT := (.node (boot_o_0 P) (.node (boot_o_1 P) (.node (o3 (.str "cpy313.traceback" 187) 10 11 P) (.node (boot_o_7 P) .nil .nil) (.node o11 .nil .nil)) (.node (boot_o_5 P) (.node (boot_o_9 P) .nil .nil) (.node o13 .nil .nil))) (.node (boot_o_2 P) (.node (boot_o_4 P) (.node (boot_o_8 P) .nil .nil) (.node (o12 0) .nil .nil)) (.node (boot_o_6 P) (.node (boot_o_10 P) .nil .nil) (.node o14 .nil .nil))))
noncomputable def ht4 (P : Params) : BT := (.node (boot_o_0 P) (.node (boot_o_1 P) (.node (o3 (.str "cpy313.traceback" 187) 11 12 P) (.node (boot_o_7 P) .nil .nil) (.node o11 .nil .nil)) (.node (boot_o_5 P) (.node (boot_o_9 P) .nil .nil) (.node o13 .nil .nil))) (.node (boot_o_2 P) (.node (boot_o_4 P) (.node (boot_o_8 P) .nil .nil) (.node (o12 0) .nil .nil)) (.node (boot_o_6 P) (.node (boot_o_10 P) .nil .nil) (.node o14 .nil .nil))))
noncomputable def ht5 (P : Params) : BT := (.node (boot_o_0 P) (.node (boot_o_1 P) (.node (o3 (.str "cpy313.traceback" 187) 12 13 P) (.node (boot_o_7 P) (.node o15 .nil .nil) .nil) (.node o11 (.node o19 .nil .nil) .nil)) (.node (boot_o_5 P) (.node (boot_o_9 P) (.node o17 .nil .nil) .nil) (.node o13 (.node o21 .nil .nil) .nil))) (.node (boot_o_2 P) (.node (boot_o_4 P) (.node (boot_o_8 P) (.node o16 .nil .nil) .nil) (.node (o12 3) (.node o20 .nil .nil) .nil)) (.node (boot_o_6 P) (.node (boot_o_10 P) (.node o18 .nil .nil) .nil) (.node o14 .nil .nil))))
noncomputable def ht6 (P : Params) : BT := (.node (boot_o_0 P) (.node (boot_o_1 P) (.node (o3 (.str "cpy313.traceback" 187) 13 14 P) (.node (boot_o_7 P) (.node o15 .nil .nil) (.node o23 .nil .nil)) (.node o11 (.node o19 .nil .nil) (.node o27 .nil .nil))) (.node (boot_o_5 P) (.node (boot_o_9 P) (.node o17 .nil .nil) (.node o25 .nil .nil)) (.node o13 (.node o21 .nil .nil) .nil))) (.node (boot_o_2 P) (.node (boot_o_4 P) (.node (boot_o_8 P) (.node o16 .nil .nil) (.node o24 .nil .nil)) (.node (o12 6) (.node o20 .nil .nil) (.node o28 .nil .nil))) (.node (boot_o_6 P) (.node (boot_o_10 P) (.node o18 .nil .nil) (.node o26 .nil .nil)) (.node o14 (.node o22 .nil .nil) .nil))))
noncomputable def ht7 (P : Params) : BT := (.node (boot_o_0 P) (.node (boot_o_1 P) (.node (o3 (.str "cpy313._pylong" 223) 13 14 P) (.node (boot_o_7 P) (.node o15 .nil .nil) (.node o23 .nil .nil)) (.node o11 (.node o19 .nil .nil) (.node o27 .nil .nil))) (.node (boot_o_5 P) (.node (boot_o_9 P) (.node o17 .nil .nil) (.node o25 .nil .nil)) (.node o13 (.node o21 .nil .nil) .nil))) (.node (boot_o_2 P) (.node (boot_o_4 P) (.node (boot_o_8 P) (.node o16 .nil .nil) (.node o24 .nil .nil)) (.node (o12 6) (.node o20 .nil .nil) (.node o28 .nil .nil))) (.node (boot_o_6 P) (.node (boot_o_10 P) (.node o18 .nil .nil) (.node o26 .nil .nil)) (.node o14 (.node o22 .nil .nil) .nil))))
noncomputable def ht8 (P : Params) : BT := (.node (boot_o_0 P) (.node (boot_o_1 P) (.node (o3 (.str "cpy313._pylong" 223) 14 15 P) (.node (boot_o_7 P) (.node o15 .nil .nil) (.node o23 .nil .nil)) (.node o11 (.node o19 .nil .nil) (.node o27 .nil .nil))) (.node (boot_o_5 P) (.node (boot_o_9 P) (.node o17 .nil .nil) (.node o25 .nil .nil)) (.node o13 (.node o21 .nil .nil) .nil))) (.node (boot_o_2 P) (.node (boot_o_4 P) (.node (boot_o_8 P) (.node o16 .nil .nil) (.node o24 .nil .nil)) (.node (o12 6) (.node o20 .nil .nil) (.node o28 .nil .nil))) (.node (boot_o_6 P) (.node (boot_o_10 P) (.node o18 .nil .nil) (.node o26 .nil .nil)) (.node o14 (.node o22 .nil .nil) .nil))))
noncomputable def ht9 (P : Params) : BT := (.node (boot_o_0 P) (.node (boot_o_1 P) (.node (o3 (.str "cpy313._pylong" 223) 15 16 P) (.node (boot_o_7 P) (.node o15 (.node o31 .nil .nil) .nil) (.node o23 .nil .nil)) (.node o11 (.node o19 (.node o35 .nil .nil) .nil) (.node o27 .nil .nil))) (.node (boot_o_5 P) (.node (boot_o_9 P) (.node o17 (.node o33 .nil .nil) .nil) (.node o25 .nil .nil)) (.node o13 (.node o21 .nil .nil) (.node o29 .nil .nil)))) (.node (boot_o_2 P) (.node (boot_o_4 P) (.node (boot_o_8 P) (.node o16 (.node o32 .nil .nil) .nil) (.node o24 .nil .nil)) (.node (o12 9) (.node o20 .nil .nil) (.node o28 .nil .nil))) (.node (boot_o_6 P) (.node (boot_o_10 P) (.node o18 (.node o34 .nil .nil) .nil) (.node o26 .nil .nil)) (.node o14 (.node o22 .nil .nil) (.node o30 .nil .nil)))))
noncomputable def ht10 (P : Params) : BT := (.node (boot_o_0 P) (.node (boot_o_1 P) (.node (o3 (.str "cpy313._pylong" 223) 16 17 P) (.node (boot_o_7 P) (.node o15 (.node o31 .nil .nil) .nil) (.node o23 (.node o39 .nil .nil) .nil)) (.node o11 (.node o19 (.node o35 .nil .nil) .nil) (.node o27 .nil .nil))) (.node (boot_o_5 P) (.node (boot_o_9 P) (.node o17 (.node o33 .nil .nil) .nil) (.node o25 (.node o41 .nil .nil) .nil)) (.node o13 (.node o21 (.node o37 .nil .nil) .nil) (.node o29 .nil .nil)))) (.node (boot_o_2 P) (.node (boot_o_4 P) (.node (boot_o_8 P) (.node o16 (.node o32 .nil .nil) .nil) (.node o24 (.node o40 .nil .nil) .nil)) (.node (o12 12) (.node o20 (.node o36 .nil .nil) .nil) (.node o28 .nil .nil))) (.node (boot_o_6 P) (.node (boot_o_10 P) (.node o18 (.node o34 .nil .nil) .nil) (.node o26 (.node o42 .nil .nil) .nil)) (.node o14 (.node o22 (.node o38 .nil .nil) .nil) (.node o30 .nil .nil)))))
noncomputable def ht11 (P : Params) : BT := (.node (boot_o_0 P) (.node (boot_o_1 P) (.node (o3 (.str "cpy313._pylong" 223) 17 18 P) (.node (boot_o_7 P) (.node o15 (.node o31 .nil .nil) (.node o47 .nil .nil)) (.node o23 (.node o39 .nil .nil) .nil)) (.node o11 (.node o19 (.node o35 .nil .nil) .nil) (.node o27 (.node o43 .nil .nil) .nil))) (.node (boot_o_5 P) (.node (boot_o_9 P) (.node o17 (.node o33 .nil .nil) (.node o49 .nil .nil)) (.node o25 (.node o41 .nil .nil) .nil)) (.node o13 (.node o21 (.node o37 .nil .nil) .nil) (.node o29 (.node o45 .nil .nil) .nil)))) (.node (boot_o_2 P) (.node (boot_o_4 P) (.node (boot_o_8 P) (.node o16 (.node o32 .nil .nil) (.node o48 .nil .nil)) (.node o24 (.node o40 .nil .nil) .nil)) (.node (o12 15) (.node o20 (.node o36 .nil .nil) .nil) (.node o28 (.node o44 .nil .nil) .nil))) (.node (boot_o_6 P) (.node (boot_o_10 P) (.node o18 (.node o34 .nil .nil) .nil) (.node o26 (.node o42 .nil .nil) .nil)) (.node o14 (.node o22 (.node o38 .nil .nil) .nil) (.node o30 (.node o46 .nil .nil) .nil)))))
noncomputable def ht12 (P : Params) : BT := (.node (boot_o_0 P) (.node (boot_o_1 P) (.node (o3 (.str "cpy313._pylong" 223) 18 19 P) (.node (boot_o_7 P) (.node o15 (.node o31 .nil .nil) (.node o47 .nil .nil)) (.node o23 (.node o39 .nil .nil) (.node o55 .nil .nil))) (.node o11 (.node o19 (.node o35 .nil .nil) (.node o51 .nil .nil)) (.node o27 (.node o43 .nil .nil) .nil))) (.node (boot_o_5 P) (.node (boot_o_9 P) (.node o17 (.node o33 .nil .nil) (.node o49 .nil .nil)) (.node o25 (.node o41 .nil .nil) .nil)) (.node o13 (.node o21 (.node o37 .nil .nil) (.node o53 .nil .nil)) (.node o29 (.node o45 .nil .nil) .nil)))) (.node (boot_o_2 P) (.node (boot_o_4 P) (.node (boot_o_8 P) (.node o16 (.node o32 .nil .nil) (.node o48 .nil .nil)) (.node o24 (.node o40 .nil .nil) (.node o56 .nil .nil))) (.node (o12 18) (.node o20 (.node o36 .nil .nil) (.node o52 .nil .nil)) (.node o28 (.node o44 .nil .nil) .nil))) (.node (boot_o_6 P) (.node (boot_o_10 P) (.node o18 (.node o34 .nil .nil) (.node o50 .nil .nil)) (.node o26 (.node o42 .nil .nil) .nil)) (.node o14 (.node o22 (.node o38 .nil .nil) (.node o54 .nil .nil)) (.node o30 (.node o46 .nil .nil) .nil)))))
noncomputable def ht13 (P : Params) : BT := (.node (boot_o_0 P) (.node (boot_o_1 P) (.node (o3 (.str "cpy313._pylong" 223) 19 20 P) (.node (boot_o_7 P) (.node o15 (.node o31 (.node o63 .nil .nil) .nil) (.node o47 .nil .nil)) (.node o23 (.node o39 .nil .nil) (.node o55 .nil .nil))) (.node o11 (.node o19 (.node o35 .nil .nil) (.node o51 .nil .nil)) (.node o27 (.node o43 .nil .nil) (.node o59 .nil .nil)))) (.node (boot_o_5 P) (.node (boot_o_9 P) (.node o17 (.node o33 .nil .nil) (.node o49 .nil .nil)) (.node o25 (.node o41 .nil .nil) (.node o57 .nil .nil))) (.node o13 (.node o21 (.node o37 .nil .nil) (.node o53 .nil .nil)) (.node o29 (.node o45 .nil .nil) (.node o61 .nil .nil))))) (.node (boot_o_2 P) (.node (boot_o_4 P) (.node (boot_o_8 P) (.node o16 (.node o32 .nil .nil) (.node o48 .nil .nil)) (.node o24 (.node o40 .nil .nil) (.node o56 .nil .nil))) (.node (o12 21) (.node o20 (.node o36 .nil .nil) (.node o52 .nil .nil)) (.node o28 (.node o44 .nil .nil) (.node o60 .nil .nil)))) (.node (boot_o_6 P) (.node (boot_o_10 P) (.node o18 (.node o34 .nil .nil) (.node o50 .nil .nil)) (.node o26 (.node o42 .nil .nil) (.node o58 .nil .nil))) (.node o14 (.node o22 (.node o38 .nil .nil) (.node o54 .nil .nil)) (.node o30 (.node o46 .nil .nil) (.node o62 .nil .nil))))))
noncomputable def ht14 (P : Params) : BT := (.node (boot_o_0 P) (.node (boot_o_1 P) (.node (o3 (.str "cpy313._pylong" 223) 20 21 P) (.node (boot_o_7 P) (.node o15 (.node o31 (.node o63 .nil .nil) .nil) (.node o47 .nil .nil)) (.node o23 (.node o39 .nil .nil) (.node o55 .nil .nil))) (.node o11 (.node o19 (.node o35 (.node o67 .nil .nil) .nil) (.node o51 .nil .nil)) (.node o27 (.node o43 .nil .nil) (.node o59 .nil .nil)))) (.node (boot_o_5 P) (.node (boot_o_9 P) (.node o17 (.node o33 (.node o65 .nil .nil) .nil) (.node o49 .nil .nil)) (.node o25 (.node o41 .nil .nil) (.node o57 .nil .nil))) (.node o13 (.node o21 (.node o37 (.node o69 .nil .nil) .nil) (.node o53 .nil .nil)) (.node o29 (.node o45 .nil .nil) (.node o61 .nil .nil))))) (.node (boot_o_2 P) (.node (boot_o_4 P) (.node (boot_o_8 P) (.node o16 (.node o32 (.node o64 .nil .nil) .nil) (.node o48 .nil .nil)) (.node o24 (.node o40 .nil .nil) (.node o56 .nil .nil))) (.node (o12 24) (.node o20 (.node o36 (.node o68 .nil .nil) .nil) (.node o52 .nil .nil)) (.node o28 (.node o44 .nil .nil) (.node o60 .nil .nil)))) (.node (boot_o_6 P) (.node (boot_o_10 P) (.node o18 (.node o34 (.node o66 .nil .nil) .nil) (.node o50 .nil .nil)) (.node o26 (.node o42 .nil .nil) (.node o58 .nil .nil))) (.node o14 (.node o22 (.node o38 (.node o70 .nil .nil) .nil) (.node o54 .nil .nil)) (.node o30 (.node o46 .nil .nil) (.node o62 .nil .nil))))))
noncomputable def ht15 (P : Params) : BT := (.node (boot_o_0 P) (.node (boot_o_1 P) (.node (o3 (.str "cpy313.bisect" 305) 20 21 P) (.node (boot_o_7 P) (.node o15 (.node o31 (.node o63 .nil .nil) .nil) (.node o47 .nil .nil)) (.node o23 (.node o39 .nil .nil) (.node o55 .nil .nil))) (.node o11 (.node o19 (.node o35 (.node o67 .nil .nil) .nil) (.node o51 .nil .nil)) (.node o27 (.node o43 .nil .nil) (.node o59 .nil .nil)))) (.node (boot_o_5 P) (.node (boot_o_9 P) (.node o17 (.node o33 (.node o65 .nil .nil) .nil) (.node o49 .nil .nil)) (.node o25 (.node o41 .nil .nil) (.node o57 .nil .nil))) (.node o13 (.node o21 (.node o37 (.node o69 .nil .nil) .nil) (.node o53 .nil .nil)) (.node o29 (.node o45 .nil .nil) (.node o61 .nil .nil))))) (.node (boot_o_2 P) (.node (boot_o_4 P) (.node (boot_o_8 P) (.node o16 (.node o32 (.node o64 .nil .nil) .nil) (.node o48 .nil .nil)) (.node o24 (.node o40 .nil .nil) (.node o56 .nil .nil))) (.node (o12 24) (.node o20 (.node o36 (.node o68 .nil .nil) .nil) (.node o52 .nil .nil)) (.node o28 (.node o44 .nil .nil) (.node o60 .nil .nil)))) (.node (boot_o_6 P) (.node (boot_o_10 P) (.node o18 (.node o34 (.node o66 .nil .nil) .nil) (.node o50 .nil .nil)) (.node o26 (.node o42 .nil .nil) (.node o58 .nil .nil))) (.node o14 (.node o22 (.node o38 (.node o70 .nil .nil) .nil) (.node o54 .nil .nil)) (.node o30 (.node o46 .nil .nil) (.node o62 .nil .nil))))))
noncomputable def ht16 (P : Params) : BT := (.node (boot_o_0 P) (.node (boot_o_1 P) (.node (o3 (.str "cpy313.bisect" 305) 21 22 P) (.node (boot_o_7 P) (.node o15 (.node o31 (.node o63 .nil .nil) .nil) (.node o47 (.node o79 .nil .nil) .nil)) (.node o23 (.node o39 (.node o71 .nil .nil) .nil) (.node o55 .nil .nil))) (.node o11 (.node o19 (.node o35 (.node o67 .nil .nil) .nil) (.node o51 .nil .nil)) (.node o27 (.node o43 (.node o75 .nil .nil) .nil) (.node o59 .nil .nil)))) (.node (boot_o_5 P) (.node (boot_o_9 P) (.node o17 (.node o33 (.node o65 .nil .nil) .nil) (.node o49 .nil .nil)) (.node o25 (.node o41 (.node o73 .nil .nil) .nil) (.node o57 .nil .nil))) (.node o13 (.node o21 (.node o37 (.node o69 .nil .nil) .nil) (.node o53 .nil .nil)) (.node o29 (.node o45 (.node o77 .nil .nil) .nil) (.node o61 .nil .nil))))) (.node (boot_o_2 P) (.node (boot_o_4 P) (.node (boot_o_8 P) (.node o16 (.node o32 (.node o64 .nil .nil) .nil) (.node o48 .nil .nil)) (.node o24 (.node o40 (.node (o72 P) .nil .nil) .nil) (.node o56 .nil .nil))) (.node (o12 27) (.node o20 (.node o36 (.node o68 .nil .nil) .nil) (.node o52 .nil .nil)) (.node o28 (.node o44 (.node o76 .nil .nil) .nil) (.node o60 .nil .nil)))) (.node (boot_o_6 P) (.node (boot_o_10 P) (.node o18 (.node o34 (.node o66 .nil .nil) .nil) (.node o50 .nil .nil)) (.node o26 (.node o42 (.node o74 .nil .nil) .nil) (.node o58 .nil .nil))) (.node o14 (.node o22 (.node o38 (.node o70 .nil .nil) .nil) (.node o54 .nil .nil)) (.node o30 (.node o46 (.node o78 .nil .nil) .nil) (.node o62 .nil .nil))))))
noncomputable def ht17 (P : Params) : BT := (.node (boot_o_0 P) (.node (boot_o_1 P) (.node (o3 (.str "cpy313.bisect" 305) 22 23 P) (.node (boot_o_7 P) (.node o15 (.node o31 (.node o63 .nil .nil) .nil) (.node o47 (.node o79 .nil .nil) .nil)) (.node o23 (.node o39 (.node o71 .nil .nil) .nil) (.node o55 (.node o87 .nil .nil) .nil))) (.node o11 (.node o19 (.node o35 (.node o67 .nil .nil) .nil) (.node o51 (.node o83 .nil .nil) .nil)) (.node o27 (.node o43 (.node o75 .nil .nil) .nil) (.node o59 .nil .nil)))) (.node (boot_o_5 P) (.node (boot_o_9 P) (.node o17 (.node o33 (.node o65 .nil .nil) .nil) (.node o49 (.node (o81 P) .nil .nil) .nil)) (.node o25 (.node o41 (.node o73 .nil .nil) .nil) (.node o57 .nil .nil))) (.node o13 (.node o21 (.node o37 (.node o69 .nil .nil) .nil) (.node o53 (.node o85 .nil .nil) .nil)) (.node o29 (.node o45 (.node o77 .nil .nil) .nil) (.node o61 .nil .nil))))) (.node (boot_o_2 P) (.node (boot_o_4 P) (.node (boot_o_8 P) (.node o16 (.node o32 (.node o64 .nil .nil) .nil) (.node o48 (.node o80 .nil .nil) .nil)) (.node o24 (.node o40 (.node (o72 P) .nil .nil) .nil) (.node o56 (.node o88 .nil .nil) .nil))) (.node (o12 30) (.node o20 (.node o36 (.node o68 .nil .nil) .nil) (.node o52 (.node o84 .nil .nil) .nil)) (.node o28 (.node o44 (.node o76 .nil .nil) .nil) (.node o60 .nil .nil)))) (.node (boot_o_6 P) (.node (boot_o_10 P) (.node o18 (.node o34 (.node o66 .nil .nil) .nil) (.node o50 (.node o82 .nil .nil) .nil)) (.node o26 (.node o42 (.node o74 .nil .nil) .nil) (.node o58 .nil .nil))) (.node o14 (.node o22 (.node o38 (.node o70 .nil .nil) .nil) (.node o54 (.node o86 .nil .nil) .nil)) (.node o30 (.node o46 (.node o78 .nil .nil) .nil) (.node o62 .nil .nil))))))
noncomputable def ht18 (P : Params) : BT := (.node (boot_o_0 P) (.node (boot_o_1 P) (.node (o3 (.str "cpy313.bisect" 305) 23 24 P) (.node (boot_o_7 P) (.node o15 (.node o31 (.node o63 .nil .nil) (.node o95 .nil .nil)) (.node o47 (.node o79 .nil .nil) .nil)) (.node o23 (.node o39 (.node o71 .nil .nil) .nil) (.node o55 (.node o87 .nil .nil) .nil))) (.node o11 (.node o19 (.node o35 (.node o67 .nil .nil) .nil) (.node o51 (.node o83 .nil .nil) .nil)) (.node o27 (.node o43 (.node o75 .nil .nil) .nil) (.node o59 (.node o91 .nil .nil) .nil)))) (.node (boot_o_5 P) (.node (boot_o_9 P) (.node o17 (.node o33 (.node o65 .nil .nil) (.node o97 .nil .nil)) (.node o49 (.node (o81 P) .nil .nil) .nil)) (.node o25 (.node o41 (.node o73 .nil .nil) .nil) (.node o57 (.node o89 .nil .nil) .nil))) (.node o13 (.node o21 (.node o37 (.node o69 .nil .nil) .nil) (.node o53 (.node o85 .nil .nil) .nil)) (.node o29 (.node o45 (.node o77 .nil .nil) .nil) (.node o61 (.node o93 .nil .nil) .nil))))) (.node (boot_o_2 P) (.node (boot_o_4 P) (.node (boot_o_8 P) (.node o16 (.node o32 (.node o64 .nil .nil) (.node o96 .nil .nil)) (.node o48 (.node o80 .nil .nil) .nil)) (.node o24 (.node o40 (.node (o72 P) .nil .nil) .nil) (.node o56 (.node o88 .nil .nil) .nil))) (.node (o12 33) (.node o20 (.node o36 (.node o68 .nil .nil) .nil) (.node o52 (.node o84 .nil .nil) .nil)) (.node o28 (.node o44 (.node o76 .nil .nil) .nil) (.node o60 (.node o92 .nil .nil) .nil)))) (.node (boot_o_6 P) (.node (boot_o_10 P) (.node o18 (.node o34 (.node o66 .nil .nil) .nil) (.node o50 (.node o82 .nil .nil) .nil)) (.node o26 (.node o42 (.node o74 .nil .nil) .nil) (.node o58 (.node (o90 P) .nil .nil) .nil))) (.node o14 (.node o22 (.node o38 (.node o70 .nil .nil) .nil) (.node o54 (.node o86 .nil .nil) .nil)) (.node o30 (.node o46 (.node o78 .nil .nil) .nil) (.node o62 (.node o94 .nil .nil) .nil))))))
noncomputable def ht19 (P : Params) : BT := (.node (boot_o_0 P) (.node (boot_o_1 P) (.node (o3 (.str "cpy313.stringprep" 348) 23 24 P) (.node (boot_o_7 P) (.node o15 (.node o31 (.node o63 .nil .nil) (.node o95 .nil .nil)) (.node o47 (.node o79 .nil .nil) .nil)) (.node o23 (.node o39 (.node o71 .nil .nil) .nil) (.node o55 (.node o87 .nil .nil) .nil))) (.node o11 (.node o19 (.node o35 (.node o67 .nil .nil) .nil) (.node o51 (.node o83 .nil .nil) .nil)) (.node o27 (.node o43 (.node o75 .nil .nil) .nil) (.node o59 (.node o91 .nil .nil) .nil)))) (.node (boot_o_5 P) (.node (boot_o_9 P) (.node o17 (.node o33 (.node o65 .nil .nil) (.node o97 .nil .nil)) (.node o49 (.node (o81 P) .nil .nil) .nil)) (.node o25 (.node o41 (.node o73 .nil .nil) .nil) (.node o57 (.node o89 .nil .nil) .nil))) (.node o13 (.node o21 (.node o37 (.node o69 .nil .nil) .nil) (.node o53 (.node o85 .nil .nil) .nil)) (.node o29 (.node o45 (.node o77 .nil .nil) .nil) (.node o61 (.node o93 .nil .nil) .nil))))) (.node (boot_o_2 P) (.node (boot_o_4 P) (.node (boot_o_8 P) (.node o16 (.node o32 (.node o64 .nil .nil) (.node o96 .nil .nil)) (.node o48 (.node o80 .nil .nil) .nil)) (.node o24 (.node o40 (.node (o72 P) .nil .nil) .nil) (.node o56 (.node o88 .nil .nil) .nil))) (.node (o12 33) (.node o20 (.node o36 (.node o68 .nil .nil) .nil) (.node o52 (.node o84 .nil .nil) .nil)) (.node o28 (.node o44 (.node o76 .nil .nil) .nil) (.node o60 (.node o92 .nil .nil) .nil)))) (.node (boot_o_6 P) (.node (boot_o_10 P) (.node o18 (.node o34 (.node o66 .nil .nil) .nil) (.node o50 (.node o82 .nil .nil) .nil)) (.node o26 (.node o42 (.node o74 .nil .nil) .nil) (.node o58 (.node (o90 P) .nil .nil) .nil))) (.node o14 (.node o22 (.node o38 (.node o70 .nil .nil) .nil) (.node o54 (.node o86 .nil .nil) .nil)) (.node o30 (.node o46 (.node o78 .nil .nil) .nil) (.node o62 (.node o94 .nil .nil) .nil))))))
noncomputable def ht20 (P : Params) : BT := (.node (boot_o_0 P) (.node (boot_o_1 P) (.node (o3 (.str "cpy313.stringprep" 348) 24 25 P) (.node (boot_o_7 P) (.node o15 (.node o31 (.node o63 .nil .nil) (.node o95 .nil .nil)) (.node o47 (.node o79 .nil .nil) .nil)) (.node o23 (.node o39 (.node o71 .nil .nil) (.node o103 .nil .nil)) (.node o55 (.node o87 .nil .nil) .nil))) (.node o11 (.node o19 (.node o35 (.node o67 .nil .nil) (.node o99 .nil .nil)) (.node o51 (.node o83 .nil .nil) .nil)) (.node o27 (.node o43 (.node o75 .nil .nil) (.node o107 .nil .nil)) (.node o59 (.node o91 .nil .nil) .nil)))) (.node (boot_o_5 P) (.node (boot_o_9 P) (.node o17 (.node o33 (.node o65 .nil .nil) (.node o97 .nil .nil)) (.node o49 (.node (o81 P) .nil .nil) .nil)) (.node o25 (.node o41 (.node o73 .nil .nil) (.node (o105 P) .nil .nil)) (.node o57 (.node o89 .nil .nil) .nil))) (.node o13 (.node o21 (.node o37 (.node o69 .nil .nil) (.node o101 .nil .nil)) (.node o53 (.node o85 .nil .nil) .nil)) (.node o29 (.node o45 (.node o77 .nil .nil) .nil) (.node o61 (.node o93 .nil .nil) .nil))))) (.node (boot_o_2 P) (.node (boot_o_4 P) (.node (boot_o_8 P) (.node o16 (.node o32 (.node o64 .nil .nil) (.node o96 .nil .nil)) (.node o48 (.node o80 .nil .nil) .nil)) (.node o24 (.node o40 (.node (o72 P) .nil .nil) (.node o104 .nil .nil)) (.node o56 (.node o88 .nil .nil) .nil))) (.node (o12 33) (.node o20 (.node o36 (.node o68 .nil .nil) (.node o100 .nil .nil)) (.node o52 (.node o84 .nil .nil) .nil)) (.node o28 (.node o44 (.node o76 .nil .nil) (.node o108 .nil .nil)) (.node o60 (.node o92 .nil .nil) .nil)))) (.node (boot_o_6 P) (.node (boot_o_10 P) (.node o18 (.node o34 (.node o66 .nil .nil) (.node o98 .nil .nil)) (.node o50 (.node o82 .nil .nil) .nil)) (.node o26 (.node o42 (.node o74 .nil .nil) (.node o106 .nil .nil)) (.node o58 (.node (o90 P) .nil .nil) .nil))) (.node o14 (.node o22 (.node o38 (.node o70 .nil .nil) (.node o102 .nil .nil)) (.node o54 (.node o86 .nil .nil) .nil)) (.node o30 (.node o46 (.node o78 .nil .nil) .nil) (.node o62 (.node o94 .nil .nil) .nil))))))
noncomputable def ht21 (P : Params) : BT := (.node (boot_o_0 P) (.node (boot_o_1 P) (.node (o3 (.str "cpy313.stringprep" 348) 25 26 P) (.node (boot_o_7 P) (.node o15 (.node o31 (.node o63 .nil .nil) (.node o95 .nil .nil)) (.node o47 (.node o79 .nil .nil) (.node o111 .nil .nil))) (.node o23 (.node o39 (.node o71 .nil .nil) (.node o103 .nil .nil)) (.node o55 (.node o87 .nil .nil) .nil))) (.node o11 (.node o19 (.node o35 (.node o67 .nil .nil) (.node o99 .nil .nil)) (.node o51 (.node o83 .nil .nil) (.node o115 .nil .nil))) (.node o27 (.node o43 (.node o75 .nil .nil) (.node o107 .nil .nil)) (.node o59 (.node o91 .nil .nil) .nil)))) (.node (boot_o_5 P) (.node (boot_o_9 P) (.node o17 (.node o33 (.node o65 .nil .nil) (.node o97 .nil .nil)) (.node o49 (.node (o81 P) .nil .nil) (.node o113 .nil .nil))) (.node o25 (.node o41 (.node o73 .nil .nil) (.node (o105 P) .nil .nil)) (.node o57 (.node o89 .nil .nil) .nil))) (.node o13 (.node o21 (.node o37 (.node o69 .nil .nil) (.node o101 .nil .nil)) (.node o53 (.node o85 .nil .nil) .nil)) (.node o29 (.node o45 (.node o77 .nil .nil) (.node o109 .nil .nil)) (.node o61 (.node o93 .nil .nil) .nil))))) (.node (boot_o_2 P) (.node (boot_o_4 P) (.node (boot_o_8 P) (.node o16 (.node o32 (.node o64 .nil .nil) (.node o96 .nil .nil)) (.node o48 (.node o80 .nil .nil) (.node o112 .nil .nil))) (.node o24 (.node o40 (.node (o72 P) .nil .nil) (.node o104 .nil .nil)) (.node o56 (.node o88 .nil .nil) .nil))) (.node (o12 36) (.node o20 (.node o36 (.node o68 .nil .nil) (.node o100 .nil .nil)) (.node o52 (.node o84 .nil .nil) .nil)) (.node o28 (.node o44 (.node o76 .nil .nil) (.node o108 .nil .nil)) (.node o60 (.node o92 .nil .nil) .nil)))) (.node (boot_o_6 P) (.node (boot_o_10 P) (.node o18 (.node o34 (.node o66 .nil .nil) (.node o98 .nil .nil)) (.node o50 (.node o82 .nil .nil) (.node o114 .nil .nil))) (.node o26 (.node o42 (.node o74 .nil .nil) (.node o106 .nil .nil)) (.node o58 (.node (o90 P) .nil .nil) .nil))) (.node o14 (.node o22 (.node o38 (.node o70 .nil .nil) (.node o102 .nil .nil)) (.node o54 (.node o86 .nil .nil) .nil)) (.node o30 (.node o46 (.node o78 .nil .nil) (.node o110 .nil .nil)) (.node o62 (.node o94 .nil .nil) .nil))))))
noncomputable def ht22 (P : Params) : BT := (.node (boot_o_0 P) (.node (boot_o_1 P) (.node (o3 (.str "cpy313.stringprep" 348) 26 27 P) (.node (boot_o_7 P) (.node o15 (.node o31 (.node o63 (.node (b3sub 11) .nil .nil) .nil) (.node o95 .nil .nil)) (.node o47 (.node o79 (.node (b3sub 27) .nil .nil) .nil) (.node o111 .nil .nil))) (.node o23 (.node o39 (.node o71 (.node (b3sub 19) .nil .nil) .nil) (.node o103 .nil .nil)) (.node o55 (.node o87 (.node (b3sub 35) .nil .nil) .nil) (.node (b3sub 3) .nil .nil)))) (.node o11 (.node o19 (.node o35 (.node o67 (.node (b3sub 15) .nil .nil) .nil) (.node o99 .nil .nil)) (.node o51 (.node o83 (.node (b3sub 31) .nil .nil) .nil) (.node o115 .nil .nil))) (.node o27 (.node o43 (.node o75 (.node (b3sub 23) .nil .nil) .nil) (.node o107 .nil .nil)) (.node o59 (.node o91 .nil .nil) (.node (b3sub 7) .nil .nil))))) (.node (boot_o_5 P) (.node (boot_o_9 P) (.node o17 (.node o33 (.node o65 (.node (b3sub 13) .nil .nil) .nil) (.node o97 .nil .nil)) (.node o49 (.node (o81 P) (.node (b3sub 29) .nil .nil) .nil) (.node o113 .nil .nil))) (.node o25 (.node o41 (.node o73 (.node (b3sub 21) .nil .nil) .nil) (.node (o105 P) .nil .nil)) (.node o57 (.node o89 (.node (b3sub 37) .nil .nil) .nil) (.node (b3sub 5) .nil .nil)))) (.node o13 (.node o21 (.node o37 (.node o69 (.node (b3sub 17) .nil .nil) .nil) (.node o101 .nil .nil)) (.node o53 (.node o85 (.node (b3sub 33) .nil .nil) .nil) (.node (b3sub 1) .nil .nil))) (.node o29 (.node o45 (.node o77 (.node (b3sub 25) .nil .nil) .nil) (.node o109 .nil .nil)) (.node o61 (.node o93 .nil .nil) (.node (b3sub 9) .nil .nil)))))) (.node (boot_o_2 P) (.node (boot_o_4 P) (.node (boot_o_8 P) (.node o16 (.node o32 (.node o64 (.node (b3sub 12) .nil .nil) .nil) (.node o96 .nil .nil)) (.node o48 (.node o80 (.node (b3sub 28) .nil .nil) .nil) (.node o112 .nil .nil))) (.node o24 (.node o40 (.node (o72 P) (.node (b3sub 20) .nil .nil) .nil) (.node o104 .nil .nil)) (.node o56 (.node o88 (.node (b3sub 36) .nil .nil) .nil) (.node (b3sub 4) .nil .nil)))) (.node (o12 36) (.node o20 (.node o36 (.node o68 (.node (b3sub 16) .nil .nil) .nil) (.node o100 .nil .nil)) (.node o52 (.node o84 (.node (b3sub 32) .nil .nil) .nil) (.node (b3main 38) .nil .nil))) (.node o28 (.node o44 (.node o76 (.node (b3sub 24) .nil .nil) .nil) (.node o108 .nil .nil)) (.node o60 (.node o92 .nil .nil) (.node (b3sub 8) .nil .nil))))) (.node (boot_o_6 P) (.node (boot_o_10 P) (.node o18 (.node o34 (.node o66 (.node (b3sub 14) .nil .nil) .nil) (.node o98 .nil .nil)) (.node o50 (.node o82 (.node (b3sub 30) .nil .nil) .nil) (.node o114 .nil .nil))) (.node o26 (.node o42 (.node o74 (.node (b3sub 22) .nil .nil) .nil) (.node o106 .nil .nil)) (.node o58 (.node (o90 P) (.node (b3sub 38) .nil .nil) .nil) (.node (b3sub 6) .nil .nil)))) (.node o14 (.node o22 (.node o38 (.node o70 (.node (b3sub 18) .nil .nil) .nil) (.node o102 .nil .nil)) (.node o54 (.node o86 (.node (b3sub 34) .nil .nil) .nil) (.node (b3sub 2) .nil .nil))) (.node o30 (.node o46 (.node o78 (.node (b3sub 26) .nil .nil) .nil) (.node o110 .nil .nil)) (.node o62 (.node o94 .nil .nil) (.node (b3sub 10) .nil .nil)))))))
noncomputable def ht23 (P : Params) : BT := (.node (boot_o_0 P) (.node (boot_o_1 P) (.node (o3 (.str "cpy313.stringprep" 348) 27 28 P) (.node (boot_o_7 P) (.node o15 (.node o31 (.node o63 (.node (b3sub 11) .nil .nil) .nil) (.node o95 (.node o159 .nil .nil) .nil)) (.node o47 (.node o79 (.node (b3sub 27) .nil .nil) .nil) (.node o111 .nil .nil))) (.node o23 (.node o39 (.node o71 (.node (b3sub 19) .nil .nil) .nil) (.node o103 .nil .nil)) (.node o55 (.node o87 (.node (b3sub 35) .nil .nil) .nil) (.node (b3sub 3) .nil .nil)))) (.node o11 (.node o19 (.node o35 (.node o67 (.node (b3sub 15) .nil .nil) .nil) (.node o99 .nil .nil)) (.node o51 (.node o83 (.node (b3sub 31) .nil .nil) .nil) (.node o115 .nil .nil))) (.node o27 (.node o43 (.node o75 (.node (b3sub 23) .nil .nil) .nil) (.node o107 .nil .nil)) (.node o59 (.node o91 (.node o155 .nil .nil) .nil) (.node (b3sub 7) .nil .nil))))) (.node (boot_o_5 P) (.node (boot_o_9 P) (.node o17 (.node o33 (.node o65 (.node (b3sub 13) .nil .nil) .nil) (.node o97 (.node o161 .nil .nil) .nil)) (.node o49 (.node (o81 P) (.node (b3sub 29) .nil .nil) .nil) (.node o113 .nil .nil))) (.node o25 (.node o41 (.node o73 (.node (b3sub 21) .nil .nil) .nil) (.node (o105 P) .nil .nil)) (.node o57 (.node o89 (.node (b3sub 37) .nil .nil) .nil) (.node (b3sub 5) .nil .nil)))) (.node o13 (.node o21 (.node o37 (.node o69 (.node (b3sub 17) .nil .nil) .nil) (.node o101 .nil .nil)) (.node o53 (.node o85 (.node (b3sub 33) .nil .nil) .nil) (.node (b3sub 1) .nil .nil))) (.node o29 (.node o45 (.node o77 (.node (b3sub 25) .nil .nil) .nil) (.node o109 .nil .nil)) (.node o61 (.node o93 (.node o157 .nil .nil) .nil) (.node (b3sub 9) .nil .nil)))))) (.node (boot_o_2 P) (.node (boot_o_4 P) (.node (boot_o_8 P) (.node o16 (.node o32 (.node o64 (.node (b3sub 12) .nil .nil) .nil) (.node o96 (.node o160 .nil .nil) .nil)) (.node o48 (.node o80 (.node (b3sub 28) .nil .nil) .nil) (.node o112 .nil .nil))) (.node o24 (.node o40 (.node (o72 P) (.node (b3sub 20) .nil .nil) .nil) (.node o104 .nil .nil)) (.node o56 (.node o88 (.node (b3sub 36) .nil .nil) .nil) (.node (b3sub 4) .nil .nil)))) (.node (o12 39) (.node o20 (.node o36 (.node o68 (.node (b3sub 16) .nil .nil) .nil) (.node o100 .nil .nil)) (.node o52 (.node o84 (.node (b3sub 32) .nil .nil) .nil) (.node (b3main 38) .nil .nil))) (.node o28 (.node o44 (.node o76 (.node (b3sub 24) .nil .nil) .nil) (.node o108 .nil .nil)) (.node o60 (.node o92 (.node o156 .nil .nil) .nil) (.node (b3sub 8) .nil .nil))))) (.node (boot_o_6 P) (.node (boot_o_10 P) (.node o18 (.node o34 (.node o66 (.node (b3sub 14) .nil .nil) .nil) (.node o98 .nil .nil)) (.node o50 (.node o82 (.node (b3sub 30) .nil .nil) .nil) (.node o114 .nil .nil))) (.node o26 (.node o42 (.node o74 (.node (b3sub 22) .nil .nil) .nil) (.node o106 .nil .nil)) (.node o58 (.node (o90 P) (.node (b3sub 38) .nil .nil) .nil) (.node (b3sub 6) .nil .nil)))) (.node o14 (.node o22 (.node o38 (.node o70 (.node (b3sub 18) .nil .nil) .nil) (.node o102 .nil .nil)) (.node o54 (.node o86 (.node (b3sub 34) .nil .nil) .nil) (.node (b3sub 2) .nil .nil))) (.node o30 (.node o46 (.node o78 (.node (b3sub 26) .nil .nil) .nil) (.node o110 .nil .nil)) (.node o62 (.node o94 (.node o158 .nil .nil) .nil) (.node (b3sub 10) .nil .nil)))))))
noncomputable def ht24 (P : Params) : BT := (.node (boot_o_0 P) (.node (boot_o_1 P) (.node (o3 (.str "law_sn0097_01" 2376) 27 28 P) (.node (boot_o_7 P) (.node o15 (.node o31 (.node o63 (.node (b3sub 11) .nil .nil) .nil) (.node o95 (.node o159 .nil .nil) .nil)) (.node o47 (.node o79 (.node (b3sub 27) .nil .nil) .nil) (.node o111 .nil .nil))) (.node o23 (.node o39 (.node o71 (.node (b3sub 19) .nil .nil) .nil) (.node o103 .nil .nil)) (.node o55 (.node o87 (.node (b3sub 35) .nil .nil) .nil) (.node (b3sub 3) .nil .nil)))) (.node o11 (.node o19 (.node o35 (.node o67 (.node (b3sub 15) .nil .nil) .nil) (.node o99 .nil .nil)) (.node o51 (.node o83 (.node (b3sub 31) .nil .nil) .nil) (.node o115 .nil .nil))) (.node o27 (.node o43 (.node o75 (.node (b3sub 23) .nil .nil) .nil) (.node o107 .nil .nil)) (.node o59 (.node o91 (.node o155 .nil .nil) .nil) (.node (b3sub 7) .nil .nil))))) (.node (boot_o_5 P) (.node (boot_o_9 P) (.node o17 (.node o33 (.node o65 (.node (b3sub 13) .nil .nil) .nil) (.node o97 (.node o161 .nil .nil) .nil)) (.node o49 (.node (o81 P) (.node (b3sub 29) .nil .nil) .nil) (.node o113 .nil .nil))) (.node o25 (.node o41 (.node o73 (.node (b3sub 21) .nil .nil) .nil) (.node (o105 P) .nil .nil)) (.node o57 (.node o89 (.node (b3sub 37) .nil .nil) .nil) (.node (b3sub 5) .nil .nil)))) (.node o13 (.node o21 (.node o37 (.node o69 (.node (b3sub 17) .nil .nil) .nil) (.node o101 .nil .nil)) (.node o53 (.node o85 (.node (b3sub 33) .nil .nil) .nil) (.node (b3sub 1) .nil .nil))) (.node o29 (.node o45 (.node o77 (.node (b3sub 25) .nil .nil) .nil) (.node o109 .nil .nil)) (.node o61 (.node o93 (.node o157 .nil .nil) .nil) (.node (b3sub 9) .nil .nil)))))) (.node (boot_o_2 P) (.node (boot_o_4 P) (.node (boot_o_8 P) (.node o16 (.node o32 (.node o64 (.node (b3sub 12) .nil .nil) .nil) (.node o96 (.node o160 .nil .nil) .nil)) (.node o48 (.node o80 (.node (b3sub 28) .nil .nil) .nil) (.node o112 .nil .nil))) (.node o24 (.node o40 (.node (o72 P) (.node (b3sub 20) .nil .nil) .nil) (.node o104 .nil .nil)) (.node o56 (.node o88 (.node (b3sub 36) .nil .nil) .nil) (.node (b3sub 4) .nil .nil)))) (.node (o12 39) (.node o20 (.node o36 (.node o68 (.node (b3sub 16) .nil .nil) .nil) (.node o100 .nil .nil)) (.node o52 (.node o84 (.node (b3sub 32) .nil .nil) .nil) (.node (b3main 38) .nil .nil))) (.node o28 (.node o44 (.node o76 (.node (b3sub 24) .nil .nil) .nil) (.node o108 .nil .nil)) (.node o60 (.node o92 (.node o156 .nil .nil) .nil) (.node (b3sub 8) .nil .nil))))) (.node (boot_o_6 P) (.node (boot_o_10 P) (.node o18 (.node o34 (.node o66 (.node (b3sub 14) .nil .nil) .nil) (.node o98 .nil .nil)) (.node o50 (.node o82 (.node (b3sub 30) .nil .nil) .nil) (.node o114 .nil .nil))) (.node o26 (.node o42 (.node o74 (.node (b3sub 22) .nil .nil) .nil) (.node o106 .nil .nil)) (.node o58 (.node (o90 P) (.node (b3sub 38) .nil .nil) .nil) (.node (b3sub 6) .nil .nil)))) (.node o14 (.node o22 (.node o38 (.node o70 (.node (b3sub 18) .nil .nil) .nil) (.node o102 .nil .nil)) (.node o54 (.node o86 (.node (b3sub 34) .nil .nil) .nil) (.node (b3sub 2) .nil .nil))) (.node o30 (.node o46 (.node o78 (.node (b3sub 26) .nil .nil) .nil) (.node o110 .nil .nil)) (.node o62 (.node o94 (.node o158 .nil .nil) .nil) (.node (b3sub 10) .nil .nil)))))))
noncomputable def ht25 (P : Params) : BT := (.node (boot_o_0 P) (.node (boot_o_1 P) (.node (o3 (.str "law_sn0097_01" 2376) 28 29 P) (.node (boot_o_7 P) (.node o15 (.node o31 (.node o63 (.node (b3sub 11) .nil .nil) .nil) (.node o95 (.node o159 .nil .nil) .nil)) (.node o47 (.node o79 (.node (b3sub 27) .nil .nil) .nil) (.node o111 .nil .nil))) (.node o23 (.node o39 (.node o71 (.node (b3sub 19) .nil .nil) .nil) (.node o103 .nil .nil)) (.node o55 (.node o87 (.node (b3sub 35) .nil .nil) .nil) (.node (b3sub 3) .nil .nil)))) (.node o11 (.node o19 (.node o35 (.node o67 (.node (b3sub 15) .nil .nil) .nil) (.node o99 (.node o163 .nil .nil) .nil)) (.node o51 (.node o83 (.node (b3sub 31) .nil .nil) .nil) (.node o115 .nil .nil))) (.node o27 (.node o43 (.node o75 (.node (b3sub 23) .nil .nil) .nil) (.node o107 .nil .nil)) (.node o59 (.node o91 (.node o155 .nil .nil) .nil) (.node (b3sub 7) .nil .nil))))) (.node (boot_o_5 P) (.node (boot_o_9 P) (.node o17 (.node o33 (.node o65 (.node (b3sub 13) .nil .nil) .nil) (.node o97 (.node o161 .nil .nil) .nil)) (.node o49 (.node (o81 P) (.node (b3sub 29) .nil .nil) .nil) (.node o113 .nil .nil))) (.node o25 (.node o41 (.node o73 (.node (b3sub 21) .nil .nil) .nil) (.node (o105 P) .nil .nil)) (.node o57 (.node o89 (.node (b3sub 37) .nil .nil) .nil) (.node (b3sub 5) .nil .nil)))) (.node o13 (.node o21 (.node o37 (.node o69 (.node (b3sub 17) .nil .nil) .nil) (.node o101 (.node o165 .nil .nil) .nil)) (.node o53 (.node o85 (.node (b3sub 33) .nil .nil) .nil) (.node (b3sub 1) .nil .nil))) (.node o29 (.node o45 (.node o77 (.node (b3sub 25) .nil .nil) .nil) (.node o109 .nil .nil)) (.node o61 (.node o93 (.node o157 .nil .nil) .nil) (.node (b3sub 9) .nil .nil)))))) (.node (boot_o_2 P) (.node (boot_o_4 P) (.node (boot_o_8 P) (.node o16 (.node o32 (.node o64 (.node (b3sub 12) .nil .nil) .nil) (.node o96 (.node o160 .nil .nil) .nil)) (.node o48 (.node o80 (.node (b3sub 28) .nil .nil) .nil) (.node o112 .nil .nil))) (.node o24 (.node o40 (.node (o72 P) (.node (b3sub 20) .nil .nil) .nil) (.node o104 .nil .nil)) (.node o56 (.node o88 (.node (b3sub 36) .nil .nil) .nil) (.node (b3sub 4) .nil .nil)))) (.node (o12 42) (.node o20 (.node o36 (.node o68 (.node (b3sub 16) .nil .nil) .nil) (.node o100 (.node o164 .nil .nil) .nil)) (.node o52 (.node o84 (.node (b3sub 32) .nil .nil) .nil) (.node (b3main 38) .nil .nil))) (.node o28 (.node o44 (.node o76 (.node (b3sub 24) .nil .nil) .nil) (.node o108 .nil .nil)) (.node o60 (.node o92 (.node o156 .nil .nil) .nil) (.node (b3sub 8) .nil .nil))))) (.node (boot_o_6 P) (.node (boot_o_10 P) (.node o18 (.node o34 (.node o66 (.node (b3sub 14) .nil .nil) .nil) (.node o98 (.node o162 .nil .nil) .nil)) (.node o50 (.node o82 (.node (b3sub 30) .nil .nil) .nil) (.node o114 .nil .nil))) (.node o26 (.node o42 (.node o74 (.node (b3sub 22) .nil .nil) .nil) (.node o106 .nil .nil)) (.node o58 (.node (o90 P) (.node (b3sub 38) .nil .nil) .nil) (.node (b3sub 6) .nil .nil)))) (.node o14 (.node o22 (.node o38 (.node o70 (.node (b3sub 18) .nil .nil) .nil) (.node o102 (.node o166 .nil .nil) .nil)) (.node o54 (.node o86 (.node (b3sub 34) .nil .nil) .nil) (.node (b3sub 2) .nil .nil))) (.node o30 (.node o46 (.node o78 (.node (b3sub 26) .nil .nil) .nil) (.node o110 .nil .nil)) (.node o62 (.node o94 (.node o158 .nil .nil) .nil) (.node (b3sub 10) .nil .nil)))))))
noncomputable def ht26 (P : Params) : BT := (.node (boot_o_0 P) (.node (boot_o_1 P) (.node (o3 (.str "law_sn0097_01" 2376) 29 30 P) (.node (boot_o_7 P) (.node o15 (.node o31 (.node o63 (.node (b3sub 11) .nil .nil) .nil) (.node o95 (.node o159 .nil .nil) .nil)) (.node o47 (.node o79 (.node (b3sub 27) .nil .nil) .nil) (.node o111 .nil .nil))) (.node o23 (.node o39 (.node o71 (.node (b3sub 19) .nil .nil) .nil) (.node o103 (.node o167 .nil .nil) .nil)) (.node o55 (.node o87 (.node (b3sub 35) .nil .nil) .nil) (.node (b3sub 3) .nil .nil)))) (.node o11 (.node o19 (.node o35 (.node o67 (.node (b3sub 15) .nil .nil) .nil) (.node o99 (.node o163 .nil .nil) .nil)) (.node o51 (.node o83 (.node (b3sub 31) .nil .nil) .nil) (.node o115 .nil .nil))) (.node o27 (.node o43 (.node o75 (.node (b3sub 23) .nil .nil) .nil) (.node o107 (.node o171 .nil .nil) .nil)) (.node o59 (.node o91 (.node o155 .nil .nil) .nil) (.node (b3sub 7) .nil .nil))))) (.node (boot_o_5 P) (.node (boot_o_9 P) (.node o17 (.node o33 (.node o65 (.node (b3sub 13) .nil .nil) .nil) (.node o97 (.node o161 .nil .nil) .nil)) (.node o49 (.node (o81 P) (.node (b3sub 29) .nil .nil) .nil) (.node o113 .nil .nil))) (.node o25 (.node o41 (.node o73 (.node (b3sub 21) .nil .nil) .nil) (.node (o105 P) (.node o169 .nil .nil) .nil)) (.node o57 (.node o89 (.node (b3sub 37) .nil .nil) .nil) (.node (b3sub 5) .nil .nil)))) (.node o13 (.node o21 (.node o37 (.node o69 (.node (b3sub 17) .nil .nil) .nil) (.node o101 (.node o165 .nil .nil) .nil)) (.node o53 (.node o85 (.node (b3sub 33) .nil .nil) .nil) (.node (b3sub 1) .nil .nil))) (.node o29 (.node o45 (.node o77 (.node (b3sub 25) .nil .nil) .nil) (.node o109 (.node o173 .nil .nil) .nil)) (.node o61 (.node o93 (.node o157 .nil .nil) .nil) (.node (b3sub 9) .nil .nil)))))) (.node (boot_o_2 P) (.node (boot_o_4 P) (.node (boot_o_8 P) (.node o16 (.node o32 (.node o64 (.node (b3sub 12) .nil .nil) .nil) (.node o96 (.node o160 .nil .nil) .nil)) (.node o48 (.node o80 (.node (b3sub 28) .nil .nil) .nil) (.node o112 .nil .nil))) (.node o24 (.node o40 (.node (o72 P) (.node (b3sub 20) .nil .nil) .nil) (.node o104 (.node o168 .nil .nil) .nil)) (.node o56 (.node o88 (.node (b3sub 36) .nil .nil) .nil) (.node (b3sub 4) .nil .nil)))) (.node (o12 45) (.node o20 (.node o36 (.node o68 (.node (b3sub 16) .nil .nil) .nil) (.node o100 (.node o164 .nil .nil) .nil)) (.node o52 (.node o84 (.node (b3sub 32) .nil .nil) .nil) (.node (b3main 38) .nil .nil))) (.node o28 (.node o44 (.node o76 (.node (b3sub 24) .nil .nil) .nil) (.node o108 (.node o172 .nil .nil) .nil)) (.node o60 (.node o92 (.node o156 .nil .nil) .nil) (.node (b3sub 8) .nil .nil))))) (.node (boot_o_6 P) (.node (boot_o_10 P) (.node o18 (.node o34 (.node o66 (.node (b3sub 14) .nil .nil) .nil) (.node o98 (.node o162 .nil .nil) .nil)) (.node o50 (.node o82 (.node (b3sub 30) .nil .nil) .nil) (.node o114 .nil .nil))) (.node o26 (.node o42 (.node o74 (.node (b3sub 22) .nil .nil) .nil) (.node o106 (.node o170 .nil .nil) .nil)) (.node o58 (.node (o90 P) (.node (b3sub 38) .nil .nil) .nil) (.node (b3sub 6) .nil .nil)))) (.node o14 (.node o22 (.node o38 (.node o70 (.node (b3sub 18) .nil .nil) .nil) (.node o102 (.node o166 .nil .nil) .nil)) (.node o54 (.node o86 (.node (b3sub 34) .nil .nil) .nil) (.node (b3sub 2) .nil .nil))) (.node o30 (.node o46 (.node o78 (.node (b3sub 26) .nil .nil) .nil) (.node o110 .nil .nil)) (.node o62 (.node o94 (.node o158 .nil .nil) .nil) (.node (b3sub 10) .nil .nil)))))))
noncomputable def ht27 (P : Params) : BT := (.node (boot_o_0 P) (.node (boot_o_1 P) (.node (o3 (.str "law_sn0097_01" 2376) 30 31 P) (.node (boot_o_7 P) (.node o15 (.node o31 (.node o63 (.node (b3sub 11) .nil .nil) .nil) (.node o95 (.node o159 .nil .nil) .nil)) (.node o47 (.node o79 (.node (b3sub 27) .nil .nil) .nil) (.node o111 (.node o175 .nil .nil) .nil))) (.node o23 (.node o39 (.node o71 (.node (b3sub 19) .nil .nil) .nil) (.node o103 (.node o167 .nil .nil) .nil)) (.node o55 (.node o87 (.node (b3sub 35) .nil .nil) .nil) (.node (b3sub 3) .nil .nil)))) (.node o11 (.node o19 (.node o35 (.node o67 (.node (b3sub 15) .nil .nil) .nil) (.node o99 (.node o163 .nil .nil) .nil)) (.node o51 (.node o83 (.node (b3sub 31) .nil .nil) .nil) (.node o115 .nil .nil))) (.node o27 (.node o43 (.node o75 (.node (b3sub 23) .nil .nil) .nil) (.node o107 (.node o171 .nil .nil) .nil)) (.node o59 (.node o91 (.node o155 .nil .nil) .nil) (.node (b3sub 7) .nil .nil))))) (.node (boot_o_5 P) (.node (boot_o_9 P) (.node o17 (.node o33 (.node o65 (.node (b3sub 13) .nil .nil) .nil) (.node o97 (.node o161 .nil .nil) .nil)) (.node o49 (.node (o81 P) (.node (b3sub 29) .nil .nil) .nil) (.node o113 (.node o177 .nil .nil) .nil))) (.node o25 (.node o41 (.node o73 (.node (b3sub 21) .nil .nil) .nil) (.node (o105 P) (.node o169 .nil .nil) .nil)) (.node o57 (.node o89 (.node (b3sub 37) .nil .nil) .nil) (.node (b3sub 5) .nil .nil)))) (.node o13 (.node o21 (.node o37 (.node o69 (.node (b3sub 17) .nil .nil) .nil) (.node o101 (.node o165 .nil .nil) .nil)) (.node o53 (.node o85 (.node (b3sub 33) .nil .nil) .nil) (.node (b3sub 1) .nil .nil))) (.node o29 (.node o45 (.node o77 (.node (b3sub 25) .nil .nil) .nil) (.node o109 (.node o173 .nil .nil) .nil)) (.node o61 (.node o93 (.node o157 .nil .nil) .nil) (.node (b3sub 9) .nil .nil)))))) (.node (boot_o_2 P) (.node (boot_o_4 P) (.node (boot_o_8 P) (.node o16 (.node o32 (.node o64 (.node (b3sub 12) .nil .nil) .nil) (.node o96 (.node o160 .nil .nil) .nil)) (.node o48 (.node o80 (.node (b3sub 28) .nil .nil) .nil) (.node o112 (.node o176 .nil .nil) .nil))) (.node o24 (.node o40 (.node (o72 P) (.node (b3sub 20) .nil .nil) .nil) (.node o104 (.node o168 .nil .nil) .nil)) (.node o56 (.node o88 (.node (b3sub 36) .nil .nil) .nil) (.node (b3sub 4) .nil .nil)))) (.node (o12 48) (.node o20 (.node o36 (.node o68 (.node (b3sub 16) .nil .nil) .nil) (.node o100 (.node o164 .nil .nil) .nil)) (.node o52 (.node o84 (.node (b3sub 32) .nil .nil) .nil) (.node (b3main 38) .nil .nil))) (.node o28 (.node o44 (.node o76 (.node (b3sub 24) .nil .nil) .nil) (.node o108 (.node o172 .nil .nil) .nil)) (.node o60 (.node o92 (.node o156 .nil .nil) .nil) (.node (b3sub 8) .nil .nil))))) (.node (boot_o_6 P) (.node (boot_o_10 P) (.node o18 (.node o34 (.node o66 (.node (b3sub 14) .nil .nil) .nil) (.node o98 (.node o162 .nil .nil) .nil)) (.node o50 (.node o82 (.node (b3sub 30) .nil .nil) .nil) (.node o114 (.node o178 .nil .nil) .nil))) (.node o26 (.node o42 (.node o74 (.node (b3sub 22) .nil .nil) .nil) (.node o106 (.node o170 .nil .nil) .nil)) (.node o58 (.node (o90 P) (.node (b3sub 38) .nil .nil) .nil) (.node (b3sub 6) .nil .nil)))) (.node o14 (.node o22 (.node o38 (.node o70 (.node (b3sub 18) .nil .nil) .nil) (.node o102 (.node o166 .nil .nil) .nil)) (.node o54 (.node o86 (.node (b3sub 34) .nil .nil) .nil) (.node (b3sub 2) .nil .nil))) (.node o30 (.node o46 (.node o78 (.node (b3sub 26) .nil .nil) .nil) (.node o110 (.node o174 .nil .nil) .nil)) (.node o62 (.node o94 (.node o158 .nil .nil) .nil) (.node (b3sub 10) .nil .nil)))))))
noncomputable def ht28 (P : Params) : BT := (.node (boot_o_0 P) (.node (boot_o_1 P) (.node (o3 (.str "law_sn0097_01" 2376) 31 32 P) (.node (boot_o_7 P) (.node o15 (.node o31 (.node o63 (.node (b3sub 11) .nil .nil) .nil) (.node o95 (.node o159 .nil .nil) .nil)) (.node o47 (.node o79 (.node (b3sub 27) .nil .nil) .nil) (.node o111 (.node o175 .nil .nil) .nil))) (.node o23 (.node o39 (.node o71 (.node (b3sub 19) .nil .nil) .nil) (.node o103 (.node o167 .nil .nil) .nil)) (.node o55 (.node o87 (.node (b3sub 35) .nil .nil) .nil) (.node (b3sub 3) (.node o183 .nil .nil) .nil)))) (.node o11 (.node o19 (.node o35 (.node o67 (.node (b3sub 15) .nil .nil) .nil) (.node o99 (.node o163 .nil .nil) .nil)) (.node o51 (.node o83 (.node (b3sub 31) .nil .nil) .nil) (.node o115 (.node o179 .nil .nil) .nil))) (.node o27 (.node o43 (.node o75 (.node (b3sub 23) .nil .nil) .nil) (.node o107 (.node o171 .nil .nil) .nil)) (.node o59 (.node o91 (.node o155 .nil .nil) .nil) (.node (b3sub 7) .nil .nil))))) (.node (boot_o_5 P) (.node (boot_o_9 P) (.node o17 (.node o33 (.node o65 (.node (b3sub 13) .nil .nil) .nil) (.node o97 (.node o161 .nil .nil) .nil)) (.node o49 (.node (o81 P) (.node (b3sub 29) .nil .nil) .nil) (.node o113 (.node o177 .nil .nil) .nil))) (.node o25 (.node o41 (.node o73 (.node (b3sub 21) .nil .nil) .nil) (.node (o105 P) (.node o169 .nil .nil) .nil)) (.node o57 (.node o89 (.node (b3sub 37) .nil .nil) .nil) (.node (b3sub 5) (.node o185 .nil .nil) .nil)))) (.node o13 (.node o21 (.node o37 (.node o69 (.node (b3sub 17) .nil .nil) .nil) (.node o101 (.node o165 .nil .nil) .nil)) (.node o53 (.node o85 (.node (b3sub 33) .nil .nil) .nil) (.node (b3sub 1) (.node o181 .nil .nil) .nil))) (.node o29 (.node o45 (.node o77 (.node (b3sub 25) .nil .nil) .nil) (.node o109 (.node o173 .nil .nil) .nil)) (.node o61 (.node o93 (.node o157 .nil .nil) .nil) (.node (b3sub 9) .nil .nil)))))) (.node (boot_o_2 P) (.node (boot_o_4 P) (.node (boot_o_8 P) (.node o16 (.node o32 (.node o64 (.node (b3sub 12) .nil .nil) .nil) (.node o96 (.node o160 .nil .nil) .nil)) (.node o48 (.node o80 (.node (b3sub 28) .nil .nil) .nil) (.node o112 (.node o176 .nil .nil) .nil))) (.node o24 (.node o40 (.node (o72 P) (.node (b3sub 20) .nil .nil) .nil) (.node o104 (.node o168 .nil .nil) .nil)) (.node o56 (.node o88 (.node (b3sub 36) .nil .nil) .nil) (.node (b3sub 4) (.node o184 .nil .nil) .nil)))) (.node (o12 51) (.node o20 (.node o36 (.node o68 (.node (b3sub 16) .nil .nil) .nil) (.node o100 (.node o164 .nil .nil) .nil)) (.node o52 (.node o84 (.node (b3sub 32) .nil .nil) .nil) (.node (b3main 38) (.node o180 .nil .nil) .nil))) (.node o28 (.node o44 (.node o76 (.node (b3sub 24) .nil .nil) .nil) (.node o108 (.node o172 .nil .nil) .nil)) (.node o60 (.node o92 (.node o156 .nil .nil) .nil) (.node (b3sub 8) .nil .nil))))) (.node (boot_o_6 P) (.node (boot_o_10 P) (.node o18 (.node o34 (.node o66 (.node (b3sub 14) .nil .nil) .nil) (.node o98 (.node o162 .nil .nil) .nil)) (.node o50 (.node o82 (.node (b3sub 30) .nil .nil) .nil) (.node o114 (.node o178 .nil .nil) .nil))) (.node o26 (.node o42 (.node o74 (.node (b3sub 22) .nil .nil) .nil) (.node o106 (.node o170 .nil .nil) .nil)) (.node o58 (.node (o90 P) (.node (b3sub 38) .nil .nil) .nil) (.node (b3sub 6) .nil .nil)))) (.node o14 (.node o22 (.node o38 (.node o70 (.node (b3sub 18) .nil .nil) .nil) (.node o102 (.node o166 .nil .nil) .nil)) (.node o54 (.node o86 (.node (b3sub 34) .nil .nil) .nil) (.node (b3sub 2) (.node o182 .nil .nil) .nil))) (.node o30 (.node o46 (.node o78 (.node (b3sub 26) .nil .nil) .nil) (.node o110 (.node o174 .nil .nil) .nil)) (.node o62 (.node o94 (.node o158 .nil .nil) .nil) (.node (b3sub 10) .nil .nil)))))))
noncomputable def ht29 (P : Params) : BT := (.node (boot_o_0 P) (.node (boot_o_1 P) (.node (o3 (.str "law_sn0097_01" 2376) 32 33 P) (.node (boot_o_7 P) (.node o15 (.node o31 (.node o63 (.node (b3sub 11) .nil .nil) .nil) (.node o95 (.node o159 .nil .nil) .nil)) (.node o47 (.node o79 (.node (b3sub 27) .nil .nil) .nil) (.node o111 (.node o175 .nil .nil) .nil))) (.node o23 (.node o39 (.node o71 (.node (b3sub 19) .nil .nil) .nil) (.node o103 (.node o167 .nil .nil) .nil)) (.node o55 (.node o87 (.node (b3sub 35) .nil .nil) .nil) (.node (b3sub 3) (.node o183 .nil .nil) .nil)))) (.node o11 (.node o19 (.node o35 (.node o67 (.node (b3sub 15) .nil .nil) .nil) (.node o99 (.node o163 .nil .nil) .nil)) (.node o51 (.node o83 (.node (b3sub 31) .nil .nil) .nil) (.node o115 (.node o179 .nil .nil) .nil))) (.node o27 (.node o43 (.node o75 (.node (b3sub 23) .nil .nil) .nil) (.node o107 (.node o171 .nil .nil) .nil)) (.node o59 (.node o91 (.node o155 .nil .nil) .nil) (.node (b3sub 7) (.node o187 .nil .nil) .nil))))) (.node (boot_o_5 P) (.node (boot_o_9 P) (.node o17 (.node o33 (.node o65 (.node (b3sub 13) .nil .nil) .nil) (.node o97 (.node o161 .nil .nil) .nil)) (.node o49 (.node (o81 P) (.node (b3sub 29) .nil .nil) .nil) (.node o113 (.node o177 .nil .nil) .nil))) (.node o25 (.node o41 (.node o73 (.node (b3sub 21) .nil .nil) .nil) (.node (o105 P) (.node o169 .nil .nil) .nil)) (.node o57 (.node o89 (.node (b3sub 37) .nil .nil) .nil) (.node (b3sub 5) (.node o185 .nil .nil) .nil)))) (.node o13 (.node o21 (.node o37 (.node o69 (.node (b3sub 17) .nil .nil) .nil) (.node o101 (.node o165 .nil .nil) .nil)) (.node o53 (.node o85 (.node (b3sub 33) .nil .nil) .nil) (.node (b3sub 1) (.node o181 .nil .nil) .nil))) (.node o29 (.node o45 (.node o77 (.node (b3sub 25) .nil .nil) .nil) (.node o109 (.node o173 .nil .nil) .nil)) (.node o61 (.node o93 (.node o157 .nil .nil) .nil) (.node (b3sub 9) (.node o189 .nil .nil) .nil)))))) (.node (boot_o_2 P) (.node (boot_o_4 P) (.node (boot_o_8 P) (.node o16 (.node o32 (.node o64 (.node (b3sub 12) .nil .nil) .nil) (.node o96 (.node o160 .nil .nil) .nil)) (.node o48 (.node o80 (.node (b3sub 28) .nil .nil) .nil) (.node o112 (.node o176 .nil .nil) .nil))) (.node o24 (.node o40 (.node (o72 P) (.node (b3sub 20) .nil .nil) .nil) (.node o104 (.node o168 .nil .nil) .nil)) (.node o56 (.node o88 (.node (b3sub 36) .nil .nil) .nil) (.node (b3sub 4) (.node o184 .nil .nil) .nil)))) (.node (o12 54) (.node o20 (.node o36 (.node o68 (.node (b3sub 16) .nil .nil) .nil) (.node o100 (.node o164 .nil .nil) .nil)) (.node o52 (.node o84 (.node (b3sub 32) .nil .nil) .nil) (.node (b3main 38) (.node o180 .nil .nil) .nil))) (.node o28 (.node o44 (.node o76 (.node (b3sub 24) .nil .nil) .nil) (.node o108 (.node o172 .nil .nil) .nil)) (.node o60 (.node o92 (.node o156 .nil .nil) .nil) (.node (b3sub 8) (.node o188 .nil .nil) .nil))))) (.node (boot_o_6 P) (.node (boot_o_10 P) (.node o18 (.node o34 (.node o66 (.node (b3sub 14) .nil .nil) .nil) (.node o98 (.node o162 .nil .nil) .nil)) (.node o50 (.node o82 (.node (b3sub 30) .nil .nil) .nil) (.node o114 (.node o178 .nil .nil) .nil))) (.node o26 (.node o42 (.node o74 (.node (b3sub 22) .nil .nil) .nil) (.node o106 (.node o170 .nil .nil) .nil)) (.node o58 (.node (o90 P) (.node (b3sub 38) .nil .nil) .nil) (.node (b3sub 6) (.node o186 .nil .nil) .nil)))) (.node o14 (.node o22 (.node o38 (.node o70 (.node (b3sub 18) .nil .nil) .nil) (.node o102 (.node o166 .nil .nil) .nil)) (.node o54 (.node o86 (.node (b3sub 34) .nil .nil) .nil) (.node (b3sub 2) (.node o182 .nil .nil) .nil))) (.node o30 (.node o46 (.node o78 (.node (b3sub 26) .nil .nil) .nil) (.node o110 (.node o174 .nil .nil) .nil)) (.node o62 (.node o94 (.node o158 .nil .nil) .nil) (.node (b3sub 10) (.node o190 .nil .nil) .nil)))))))
noncomputable def ht30 (P : Params) : BT := (.node (boot_o_0 P) (.node (boot_o_1 P) (.node (o3 (.str "law_sn0097_01" 2376) 33 34 P) (.node (boot_o_7 P) (.node o15 (.node o31 (.node o63 (.node (b3sub 11) .nil .nil) (.node o191 .nil .nil)) (.node o95 (.node o159 .nil .nil) .nil)) (.node o47 (.node o79 (.node (b3sub 27) .nil .nil) .nil) (.node o111 (.node o175 .nil .nil) .nil))) (.node o23 (.node o39 (.node o71 (.node (b3sub 19) .nil .nil) .nil) (.node o103 (.node o167 .nil .nil) .nil)) (.node o55 (.node o87 (.node (b3sub 35) .nil .nil) .nil) (.node (b3sub 3) (.node o183 .nil .nil) .nil)))) (.node o11 (.node o19 (.node o35 (.node o67 (.node (b3sub 15) .nil .nil) (.node o195 .nil .nil)) (.node o99 (.node o163 .nil .nil) .nil)) (.node o51 (.node o83 (.node (b3sub 31) .nil .nil) .nil) (.node o115 (.node o179 .nil .nil) .nil))) (.node o27 (.node o43 (.node o75 (.node (b3sub 23) .nil .nil) .nil) (.node o107 (.node o171 .nil .nil) .nil)) (.node o59 (.node o91 (.node o155 .nil .nil) .nil) (.node (b3sub 7) (.node o187 .nil .nil) .nil))))) (.node (boot_o_5 P) (.node (boot_o_9 P) (.node o17 (.node o33 (.node o65 (.node (b3sub 13) .nil .nil) (.node o193 .nil .nil)) (.node o97 (.node o161 .nil .nil) .nil)) (.node o49 (.node (o81 P) (.node (b3sub 29) .nil .nil) .nil) (.node o113 (.node o177 .nil .nil) .nil))) (.node o25 (.node o41 (.node o73 (.node (b3sub 21) .nil .nil) .nil) (.node (o105 P) (.node o169 .nil .nil) .nil)) (.node o57 (.node o89 (.node (b3sub 37) .nil .nil) .nil) (.node (b3sub 5) (.node o185 .nil .nil) .nil)))) (.node o13 (.node o21 (.node o37 (.node o69 (.node (b3sub 17) .nil .nil) .nil) (.node o101 (.node o165 .nil .nil) .nil)) (.node o53 (.node o85 (.node (b3sub 33) .nil .nil) .nil) (.node (b3sub 1) (.node o181 .nil .nil) .nil))) (.node o29 (.node o45 (.node o77 (.node (b3sub 25) .nil .nil) .nil) (.node o109 (.node o173 .nil .nil) .nil)) (.node o61 (.node o93 (.node o157 .nil .nil) .nil) (.node (b3sub 9) (.node o189 .nil .nil) .nil)))))) (.node (boot_o_2 P) (.node (boot_o_4 P) (.node (boot_o_8 P) (.node o16 (.node o32 (.node o64 (.node (b3sub 12) .nil .nil) (.node o192 .nil .nil)) (.node o96 (.node o160 .nil .nil) .nil)) (.node o48 (.node o80 (.node (b3sub 28) .nil .nil) .nil) (.node o112 (.node o176 .nil .nil) .nil))) (.node o24 (.node o40 (.node (o72 P) (.node (b3sub 20) .nil .nil) .nil) (.node o104 (.node o168 .nil .nil) .nil)) (.node o56 (.node o88 (.node (b3sub 36) .nil .nil) .nil) (.node (b3sub 4) (.node o184 .nil .nil) .nil)))) (.node (o12 57) (.node o20 (.node o36 (.node o68 (.node (b3sub 16) .nil .nil) .nil) (.node o100 (.node o164 .nil .nil) .nil)) (.node o52 (.node o84 (.node (b3sub 32) .nil .nil) .nil) (.node (b3main 38) (.node o180 .nil .nil) .nil))) (.node o28 (.node o44 (.node o76 (.node (b3sub 24) .nil .nil) .nil) (.node o108 (.node o172 .nil .nil) .nil)) (.node o60 (.node o92 (.node o156 .nil .nil) .nil) (.node (b3sub 8) (.node o188 .nil .nil) .nil))))) (.node (boot_o_6 P) (.node (boot_o_10 P) (.node o18 (.node o34 (.node o66 (.node (b3sub 14) .nil .nil) (.node o194 .nil .nil)) (.node o98 (.node o162 .nil .nil) .nil)) (.node o50 (.node o82 (.node (b3sub 30) .nil .nil) .nil) (.node o114 (.node o178 .nil .nil) .nil))) (.node o26 (.node o42 (.node o74 (.node (b3sub 22) .nil .nil) .nil) (.node o106 (.node o170 .nil .nil) .nil)) (.node o58 (.node (o90 P) (.node (b3sub 38) .nil .nil) .nil) (.node (b3sub 6) (.node o186 .nil .nil) .nil)))) (.node o14 (.node o22 (.node o38 (.node o70 (.node (b3sub 18) .nil .nil) .nil) (.node o102 (.node o166 .nil .nil) .nil)) (.node o54 (.node o86 (.node (b3sub 34) .nil .nil) .nil) (.node (b3sub 2) (.node o182 .nil .nil) .nil))) (.node o30 (.node o46 (.node o78 (.node (b3sub 26) .nil .nil) .nil) (.node o110 (.node o174 .nil .nil) .nil)) (.node o62 (.node o94 (.node o158 .nil .nil) .nil) (.node (b3sub 10) (.node o190 .nil .nil) .nil)))))))
noncomputable def ht31 (P : Params) : BT := (.node (boot_o_0 P) (.node (boot_o_1 P) (.node (o3 (.str "law_sn0097_01" 2376) 34 35 P) (.node (boot_o_7 P) (.node o15 (.node o31 (.node o63 (.node (b3sub 11) .nil .nil) (.node o191 .nil .nil)) (.node o95 (.node o159 .nil .nil) .nil)) (.node o47 (.node o79 (.node (b3sub 27) .nil .nil) .nil) (.node o111 (.node o175 .nil .nil) .nil))) (.node o23 (.node o39 (.node o71 (.node (b3sub 19) .nil .nil) (.node o199 .nil .nil)) (.node o103 (.node o167 .nil .nil) .nil)) (.node o55 (.node o87 (.node (b3sub 35) .nil .nil) .nil) (.node (b3sub 3) (.node o183 .nil .nil) .nil)))) (.node o11 (.node o19 (.node o35 (.node o67 (.node (b3sub 15) .nil .nil) (.node o195 .nil .nil)) (.node o99 (.node o163 .nil .nil) .nil)) (.node o51 (.node o83 (.node (b3sub 31) .nil .nil) .nil) (.node o115 (.node o179 .nil .nil) .nil))) (.node o27 (.node o43 (.node o75 (.node (b3sub 23) .nil .nil) .nil) (.node o107 (.node o171 .nil .nil) .nil)) (.node o59 (.node o91 (.node o155 .nil .nil) .nil) (.node (b3sub 7) (.node o187 .nil .nil) .nil))))) (.node (boot_o_5 P) (.node (boot_o_9 P) (.node o17 (.node o33 (.node o65 (.node (b3sub 13) .nil .nil) (.node o193 .nil .nil)) (.node o97 (.node o161 .nil .nil) .nil)) (.node o49 (.node (o81 P) (.node (b3sub 29) .nil .nil) .nil) (.node o113 (.node o177 .nil .nil) .nil))) (.node o25 (.node o41 (.node o73 (.node (b3sub 21) .nil .nil) (.node o201 .nil .nil)) (.node (o105 P) (.node o169 .nil .nil) .nil)) (.node o57 (.node o89 (.node (b3sub 37) .nil .nil) .nil) (.node (b3sub 5) (.node o185 .nil .nil) .nil)))) (.node o13 (.node o21 (.node o37 (.node o69 (.node (b3sub 17) .nil .nil) (.node o197 .nil .nil)) (.node o101 (.node o165 .nil .nil) .nil)) (.node o53 (.node o85 (.node (b3sub 33) .nil .nil) .nil) (.node (b3sub 1) (.node o181 .nil .nil) .nil))) (.node o29 (.node o45 (.node o77 (.node (b3sub 25) .nil .nil) .nil) (.node o109 (.node o173 .nil .nil) .nil)) (.node o61 (.node o93 (.node o157 .nil .nil) .nil) (.node (b3sub 9) (.node o189 .nil .nil) .nil)))))) (.node (boot_o_2 P) (.node (boot_o_4 P) (.node (boot_o_8 P) (.node o16 (.node o32 (.node o64 (.node (b3sub 12) .nil .nil) (.node o192 .nil .nil)) (.node o96 (.node o160 .nil .nil) .nil)) (.node o48 (.node o80 (.node (b3sub 28) .nil .nil) .nil) (.node o112 (.node o176 .nil .nil) .nil))) (.node o24 (.node o40 (.node (o72 P) (.node (b3sub 20) .nil .nil) (.node o200 .nil .nil)) (.node o104 (.node o168 .nil .nil) .nil)) (.node o56 (.node o88 (.node (b3sub 36) .nil .nil) .nil) (.node (b3sub 4) (.node o184 .nil .nil) .nil)))) (.node (o12 60) (.node o20 (.node o36 (.node o68 (.node (b3sub 16) .nil .nil) (.node o196 .nil .nil)) (.node o100 (.node o164 .nil .nil) .nil)) (.node o52 (.node o84 (.node (b3sub 32) .nil .nil) .nil) (.node (b3main 38) (.node o180 .nil .nil) .nil))) (.node o28 (.node o44 (.node o76 (.node (b3sub 24) .nil .nil) .nil) (.node o108 (.node o172 .nil .nil) .nil)) (.node o60 (.node o92 (.node o156 .nil .nil) .nil) (.node (b3sub 8) (.node o188 .nil .nil) .nil))))) (.node (boot_o_6 P) (.node (boot_o_10 P) (.node o18 (.node o34 (.node o66 (.node (b3sub 14) .nil .nil) (.node o194 .nil .nil)) (.node o98 (.node o162 .nil .nil) .nil)) (.node o50 (.node o82 (.node (b3sub 30) .nil .nil) .nil) (.node o114 (.node o178 .nil .nil) .nil))) (.node o26 (.node o42 (.node o74 (.node (b3sub 22) .nil .nil) (.node o202 .nil .nil)) (.node o106 (.node o170 .nil .nil) .nil)) (.node o58 (.node (o90 P) (.node (b3sub 38) .nil .nil) .nil) (.node (b3sub 6) (.node o186 .nil .nil) .nil)))) (.node o14 (.node o22 (.node o38 (.node o70 (.node (b3sub 18) .nil .nil) (.node o198 .nil .nil)) (.node o102 (.node o166 .nil .nil) .nil)) (.node o54 (.node o86 (.node (b3sub 34) .nil .nil) .nil) (.node (b3sub 2) (.node o182 .nil .nil) .nil))) (.node o30 (.node o46 (.node o78 (.node (b3sub 26) .nil .nil) .nil) (.node o110 (.node o174 .nil .nil) .nil)) (.node o62 (.node o94 (.node o158 .nil .nil) .nil) (.node (b3sub 10) (.node o190 .nil .nil) .nil)))))))
noncomputable def ht32 (P : Params) : BT := (.node (boot_o_0 P) (.node (boot_o_1 P) (.node (o3 (.str "law_sn0097_01" 2376) 35 36 P) (.node (boot_o_7 P) (.node o15 (.node o31 (.node o63 (.node (b3sub 11) .nil .nil) (.node o191 .nil .nil)) (.node o95 (.node o159 .nil .nil) .nil)) (.node o47 (.node o79 (.node (b3sub 27) .nil .nil) (.node o207 .nil .nil)) (.node o111 (.node o175 .nil .nil) .nil))) (.node o23 (.node o39 (.node o71 (.node (b3sub 19) .nil .nil) (.node o199 .nil .nil)) (.node o103 (.node o167 .nil .nil) .nil)) (.node o55 (.node o87 (.node (b3sub 35) .nil .nil) .nil) (.node (b3sub 3) (.node o183 .nil .nil) .nil)))) (.node o11 (.node o19 (.node o35 (.node o67 (.node (b3sub 15) .nil .nil) (.node o195 .nil .nil)) (.node o99 (.node o163 .nil .nil) .nil)) (.node o51 (.node o83 (.node (b3sub 31) .nil .nil) .nil) (.node o115 (.node o179 .nil .nil) .nil))) (.node o27 (.node o43 (.node o75 (.node (b3sub 23) .nil .nil) (.node o203 .nil .nil)) (.node o107 (.node o171 .nil .nil) .nil)) (.node o59 (.node o91 (.node o155 .nil .nil) .nil) (.node (b3sub 7) (.node o187 .nil .nil) .nil))))) (.node (boot_o_5 P) (.node (boot_o_9 P) (.node o17 (.node o33 (.node o65 (.node (b3sub 13) .nil .nil) (.node o193 .nil .nil)) (.node o97 (.node o161 .nil .nil) .nil)) (.node o49 (.node (o81 P) (.node (b3sub 29) .nil .nil) .nil) (.node o113 (.node o177 .nil .nil) .nil))) (.node o25 (.node o41 (.node o73 (.node (b3sub 21) .nil .nil) (.node o201 .nil .nil)) (.node (o105 P) (.node o169 .nil .nil) .nil)) (.node o57 (.node o89 (.node (b3sub 37) .nil .nil) .nil) (.node (b3sub 5) (.node o185 .nil .nil) .nil)))) (.node o13 (.node o21 (.node o37 (.node o69 (.node (b3sub 17) .nil .nil) (.node o197 .nil .nil)) (.node o101 (.node o165 .nil .nil) .nil)) (.node o53 (.node o85 (.node (b3sub 33) .nil .nil) .nil) (.node (b3sub 1) (.node o181 .nil .nil) .nil))) (.node o29 (.node o45 (.node o77 (.node (b3sub 25) .nil .nil) (.node o205 .nil .nil)) (.node o109 (.node o173 .nil .nil) .nil)) (.node o61 (.node o93 (.node o157 .nil .nil) .nil) (.node (b3sub 9) (.node o189 .nil .nil) .nil)))))) (.node (boot_o_2 P) (.node (boot_o_4 P) (.node (boot_o_8 P) (.node o16 (.node o32 (.node o64 (.node (b3sub 12) .nil .nil) (.node o192 .nil .nil)) (.node o96 (.node o160 .nil .nil) .nil)) (.node o48 (.node o80 (.node (b3sub 28) .nil .nil) .nil) (.node o112 (.node o176 .nil .nil) .nil))) (.node o24 (.node o40 (.node (o72 P) (.node (b3sub 20) .nil .nil) (.node o200 .nil .nil)) (.node o104 (.node o168 .nil .nil) .nil)) (.node o56 (.node o88 (.node (b3sub 36) .nil .nil) .nil) (.node (b3sub 4) (.node o184 .nil .nil) .nil)))) (.node (o12 63) (.node o20 (.node o36 (.node o68 (.node (b3sub 16) .nil .nil) (.node o196 .nil .nil)) (.node o100 (.node o164 .nil .nil) .nil)) (.node o52 (.node o84 (.node (b3sub 32) .nil .nil) .nil) (.node (b3main 38) (.node o180 .nil .nil) .nil))) (.node o28 (.node o44 (.node o76 (.node (b3sub 24) .nil .nil) (.node o204 .nil .nil)) (.node o108 (.node o172 .nil .nil) .nil)) (.node o60 (.node o92 (.node o156 .nil .nil) .nil) (.node (b3sub 8) (.node o188 .nil .nil) .nil))))) (.node (boot_o_6 P) (.node (boot_o_10 P) (.node o18 (.node o34 (.node o66 (.node (b3sub 14) .nil .nil) (.node o194 .nil .nil)) (.node o98 (.node o162 .nil .nil) .nil)) (.node o50 (.node o82 (.node (b3sub 30) .nil .nil) .nil) (.node o114 (.node o178 .nil .nil) .nil))) (.node o26 (.node o42 (.node o74 (.node (b3sub 22) .nil .nil) (.node o202 .nil .nil)) (.node o106 (.node o170 .nil .nil) .nil)) (.node o58 (.node (o90 P) (.node (b3sub 38) .nil .nil) .nil) (.node (b3sub 6) (.node o186 .nil .nil) .nil)))) (.node o14 (.node o22 (.node o38 (.node o70 (.node (b3sub 18) .nil .nil) (.node o198 .nil .nil)) (.node o102 (.node o166 .nil .nil) .nil)) (.node o54 (.node o86 (.node (b3sub 34) .nil .nil) .nil) (.node (b3sub 2) (.node o182 .nil .nil) .nil))) (.node o30 (.node o46 (.node o78 (.node (b3sub 26) .nil .nil) (.node o206 .nil .nil)) (.node o110 (.node o174 .nil .nil) .nil)) (.node o62 (.node o94 (.node o158 .nil .nil) .nil) (.node (b3sub 10) (.node o190 .nil .nil) .nil)))))))
theorem hp0 (w : World) : (fun os => segRunT treeTable hpw w 11 (some (.ref 6)) 1 10 (hst ht0 15 187 w os) ⟨(execs [stAt 0] henv).wrap doneF deadEnd id id, hcode, ⟨0, 0, 0, 0⟩, [topFrame hq]⟩) = fun os => some (.next, hst ht1 15 189 w os, hcode, ⟨1, 0, 1, 8⟩) := by rw [PySem.W.Fast.te10110043849684766642, PySem.W.Fast.te14364793385576792824, PySem.W.Fast.te12563942051412417395]; kernel_rfl
theorem hp1 (w : World) : (fun os => segRunT treeTable hpw w 11 (some (.ref 6)) 1 10 (hst ht1 15 189 w os) ⟨(execs [stAt 1] henv).wrap doneF deadEnd id id, hcode, ⟨1, 0, 1, 8⟩, [topFrame hq]⟩) = fun os => some (.next, hst ht2 15 191 w os, hcode, ⟨2, 0, 2, 16⟩) := by rw [PySem.W.Fast.te10110043849684766642, PySem.W.Fast.te14364793385576792824, PySem.W.Fast.te12563942051412417395]; kernel_rfl
theorem hp2 (w : World) : (fun os => segRunT treeTable hpw w 11 (some (.ref 6)) 1 10 (hst ht2 15 191 w os) ⟨(execs [stAt 2] henv).wrap doneF deadEnd id id, hcode, ⟨2, 0, 2, 16⟩, [topFrame hq]⟩) = fun os => some (.next, hst ht3 15 193 w os, hcode, ⟨3, 0, 3, 10⟩) := by rw [PySem.W.Fast.te10110043849684766642, PySem.W.Fast.te14364793385576792824, PySem.W.Fast.te12563942051412417395]; kernel_rfl
theorem hp3 (w : World) : (fun os => segRunT treeTable hpw w 11 (some (.ref 6)) 1 10 (hst ht3 15 193 w os) ⟨(execs [stAt 3] henv).wrap doneF deadEnd id id, hcode, ⟨3, 0, 3, 10⟩, [topFrame hq]⟩) = fun os => some (.next, hst ht4 15 195 w os, hcode, ⟨4, 0, 4, 10⟩) := by rw [PySem.W.Fast.te10110043849684766642, PySem.W.Fast.te14364793385576792824, PySem.W.Fast.te12563942051412417395]; kernel_rfl
theorem hp4 (w : World) : (fun os => segRunT treeTable hpw w 11 (some (.ref 6)) 1 31 (hst ht4 15 195 w os) ⟨(execs [stAt 4] henv).wrap doneF deadEnd id id, hcode, ⟨4, 0, 4, 10⟩, [topFrame hq]⟩) = fun os => some (.next, hst ht5 22 203 w os, hcode, ⟨5, 0, 10, 21⟩) := by rw [PySem.W.Fast.te10110043849684766642, PySem.W.Fast.te14364793385576792824, PySem.W.Fast.te12563942051412417395]; kernel_rfl
theorem hp5 (w : World) : (fun os => segRunT treeTable hpw w 11 (some (.ref 6)) 1 43 (hst ht5 22 203 w os) ⟨(execs [stAt 5] henv).wrap doneF deadEnd id id, hcode, ⟨5, 0, 10, 21⟩, [topFrame hq]⟩) = fun os => some (.next, hst ht6 29 223 w os, hcode, ⟨11, 0, 48, 17⟩) := by rw [PySem.W.Fast.te10110043849684766642, PySem.W.Fast.te14364793385576792824, PySem.W.Fast.te12563942051412417395]; kernel_rfl
theorem hp6 (w : World) : (fun os => segRunT treeTable hpw w 11 (some (.ref 6)) 1 10 (hst ht6 29 223 w os) ⟨(execs [stAt 6] henv).wrap doneF deadEnd id id, hcode, ⟨11, 0, 48, 17⟩, [topFrame hq]⟩) = fun os => some (.next, hst ht7 29 225 w os, hcode, ⟨49, 0, 49, 8⟩) := by rw [PySem.W.Fast.te10110043849684766642, PySem.W.Fast.te14364793385576792824, PySem.W.Fast.te12563942051412417395]; kernel_rfl
theorem hp7 (w : World) : (fun os => segRunT treeTable hpw w 11 (some (.ref 6)) 1 10 (hst ht7 29 225 w os) ⟨(execs [stAt 7] henv).wrap doneF deadEnd id id, hcode, ⟨49, 0, 49, 8⟩, [topFrame hq]⟩) = fun os => some (.next, hst ht8 29 227 w os, hcode, ⟨50, 0, 50, 10⟩) := by rw [PySem.W.Fast.te10110043849684766642, PySem.W.Fast.te14364793385576792824, PySem.W.Fast.te12563942051412417395]; kernel_rfl
theorem hp8 (w : World) : (fun os => segRunT treeTable hpw w 11 (some (.ref 6)) 1 40 (hst ht8 29 227 w os) ⟨(execs [stAt 8] henv).wrap doneF deadEnd id id, hcode, ⟨50, 0, 50, 10⟩, [topFrame hq]⟩) = fun os => some (.next, hst ht9 36 244 w os, hcode, ⟨51, 0, 66, 33⟩) := by rw [PySem.W.Fast.te10110043849684766642, PySem.W.Fast.te14364793385576792824, PySem.W.Fast.te12563942051412417395]; kernel_rfl
theorem hp9 (w : World) : (fun os => segRunT treeTable hpw w 11 (some (.ref 6)) 1 37 (hst ht9 36 244 w os) ⟨(execs [stAt 9] henv).wrap doneF deadEnd id id, hcode, ⟨51, 0, 66, 33⟩, [topFrame hq]⟩) = fun os => some (.next, hst ht10 43 258 w os, hcode, ⟨67, 0, 76, 17⟩) := by rw [PySem.W.Fast.te10110043849684766642, PySem.W.Fast.te14364793385576792824, PySem.W.Fast.te12563942051412417395]; kernel_rfl
theorem hp10 (w : World) : (fun os => segRunT treeTable hpw w 11 (some (.ref 6)) 1 34 (hst ht10 43 258 w os) ⟨(execs [stAt 10] henv).wrap doneF deadEnd id id, hcode, ⟨67, 0, 76, 17⟩, [topFrame hq]⟩) = fun os => some (.next, hst ht11 50 269 w os, hcode, ⟨77, 0, 92, 19⟩) := by rw [PySem.W.Fast.te10110043849684766642, PySem.W.Fast.te14364793385576792824, PySem.W.Fast.te12563942051412417395]; kernel_rfl
theorem hp11 (w : World) : (fun os => segRunT treeTable hpw w 11 (some (.ref 6)) 1 34 (hst ht11 50 269 w os) ⟨(execs [stAt 11] henv).wrap doneF deadEnd id id, hcode, ⟨77, 0, 92, 19⟩, [topFrame hq]⟩) = fun os => some (.next, hst ht12 57 280 w os, hcode, ⟨93, 0, 101, 49⟩) := by rw [PySem.W.Fast.te10110043849684766642, PySem.W.Fast.te14364793385576792824, PySem.W.Fast.te12563942051412417395]; kernel_rfl
theorem hp12 (w : World) : (fun os => segRunT treeTable hpw w 11 (some (.ref 6)) 1 38 (hst ht12 57 280 w os) ⟨(execs [stAt 12] henv).wrap doneF deadEnd id id, hcode, ⟨93, 0, 101, 49⟩, [topFrame hq]⟩) = fun os => some (.next, hst ht13 64 295 w os, hcode, ⟨102, 0, 112, 17⟩) := by rw [PySem.W.Fast.te10110043849684766642, PySem.W.Fast.te14364793385576792824, PySem.W.Fast.te12563942051412417395]; kernel_rfl
theorem hp13 (w : World) : (fun os => segRunT treeTable hpw w 11 (some (.ref 6)) 1 33 (hst ht13 64 295 w os) ⟨(execs [stAt 13] henv).wrap doneF deadEnd id id, hcode, ⟨102, 0, 112, 17⟩, [topFrame hq]⟩) = fun os => some (.next, hst ht14 71 305 w os, hcode, ⟨113, 0, 123, 32⟩) := by rw [PySem.W.Fast.te10110043849684766642, PySem.W.Fast.te14364793385576792824, PySem.W.Fast.te12563942051412417395]; kernel_rfl
theorem hp14 (w : World) : (fun os => segRunT treeTable hpw w 11 (some (.ref 6)) 1 10 (hst ht14 71 305 w os) ⟨(execs [stAt 14] henv).wrap doneF deadEnd id id, hcode, ⟨113, 0, 123, 32⟩, [topFrame hq]⟩) = fun os => some (.next, hst ht15 71 307 w os, hcode, ⟨124, 0, 124, 8⟩) := by rw [PySem.W.Fast.te10110043849684766642, PySem.W.Fast.te14364793385576792824, PySem.W.Fast.te12563942051412417395]; kernel_rfl
theorem hp15 (w : World) : (fun os => segRunT treeTable hpw w 11 (some (.ref 6)) 1 42 (hst ht15 71 307 w os) ⟨(execs [stAt 15] henv).wrap doneF deadEnd id id, hcode, ⟨124, 0, 124, 8⟩, [topFrame hq]⟩) = fun os => some (.next, hst ht16 80 321 w os, hcode, ⟨125, 0, 144, 13⟩) := by rw [PySem.W.Fast.te10110043849684766642, PySem.W.Fast.te14364793385576792824, PySem.W.Fast.te12563942051412417395]; kernel_rfl
theorem hp16 (w : World) : (fun os => segRunT treeTable hpw w 11 (some (.ref 6)) 1 41 (hst ht16 80 321 w os) ⟨(execs [stAt 16] henv).wrap doneF deadEnd id id, hcode, ⟨125, 0, 144, 13⟩, [topFrame hq]⟩) = fun os => some (.next, hst ht17 89 334 w os, hcode, ⟨145, 0, 150, 19⟩) := by rw [PySem.W.Fast.te10110043849684766642, PySem.W.Fast.te14364793385576792824, PySem.W.Fast.te12563942051412417395]; kernel_rfl
theorem hp17 (w : World) : (fun os => segRunT treeTable hpw w 11 (some (.ref 6)) 1 42 (hst ht17 89 334 w os) ⟨(execs [stAt 17] henv).wrap doneF deadEnd id id, hcode, ⟨145, 0, 150, 19⟩, [topFrame hq]⟩) = fun os => some (.next, hst ht18 98 348 w os, hcode, ⟨151, 0, 170, 13⟩) := by rw [PySem.W.Fast.te10110043849684766642, PySem.W.Fast.te14364793385576792824, PySem.W.Fast.te12563942051412417395]; kernel_rfl
theorem hp18 (w : World) : (fun os => segRunT treeTable hpw w 11 (some (.ref 6)) 1 10 (hst ht18 98 348 w os) ⟨(execs [stAt 18] henv).wrap doneF deadEnd id id, hcode, ⟨151, 0, 170, 13⟩, [topFrame hq]⟩) = fun os => some (.next, hst ht19 98 350 w os, hcode, ⟨171, 0, 171, 8⟩) := by rw [PySem.W.Fast.te10110043849684766642, PySem.W.Fast.te14364793385576792824, PySem.W.Fast.te12563942051412417395]; kernel_rfl
theorem hp19ff (w : World) : (fun os => segRunT treeTable hpw ((w.withFollow "set-order" false).withFollow "special-get-raises" false) 11 (some (.ref 6)) 1 999 (hst ht19 98 350 ((w.withFollow "set-order" false).withFollow "special-get-raises" false) os) ⟨(execs [stAt 19] henv).wrap doneF deadEnd id id, hcode, ⟨171, 0, 171, 8⟩, [topFrame hq]⟩) = fun os => some (.next, hst ht20 109 410 ((w.withFollow "set-order" false).withFollow "special-get-raises" false) os, hcode, ⟨172, 0, 172, 6⟩) := by rw [PySem.W.Fast.te10110043849684766642, PySem.W.Fast.te14364793385576792824, PySem.W.Fast.te12563942051412417395]; kernel_rfl
theorem hp19ft (w : World) : (fun os => segRunT treeTable hpw ((w.withFollow "set-order" true).withFollow "special-get-raises" false) 11 (some (.ref 6)) 1 999 (hst ht19 98 350 ((w.withFollow "set-order" true).withFollow "special-get-raises" false) os) ⟨(execs [stAt 19] henv).wrap doneF deadEnd id id, hcode, ⟨171, 0, 171, 8⟩, [topFrame hq]⟩) = fun os => some (.next, hst ht20 109 410 ((w.withFollow "set-order" true).withFollow "special-get-raises" false) os, hcode, ⟨172, 0, 172, 6⟩) := by rw [PySem.W.Fast.te10110043849684766642, PySem.W.Fast.te14364793385576792824, PySem.W.Fast.te12563942051412417395]; kernel_rfl
theorem hp19tf (w : World) : (fun os => segRunT treeTable hpw ((w.withFollow "set-order" false).withFollow "special-get-raises" true) 11 (some (.ref 6)) 1 999 (hst ht19 98 350 ((w.withFollow "set-order" false).withFollow "special-get-raises" true) os) ⟨(execs [stAt 19] henv).wrap doneF deadEnd id id, hcode, ⟨171, 0, 171, 8⟩, [topFrame hq]⟩) = fun os => some (.next, hst ht20 109 410 ((w.withFollow "set-order" false).withFollow "special-get-raises" true) os, hcode, ⟨172, 0, 172, 6⟩) := by rw [PySem.W.Fast.te10110043849684766642, PySem.W.Fast.te14364793385576792824, PySem.W.Fast.te12563942051412417395]; kernel_rfl
theorem hp19tt (w : World) : (fun os => segRunT treeTable hpw ((w.withFollow "set-order" true).withFollow "special-get-raises" true) 11 (some (.ref 6)) 1 999 (hst ht19 98 350 ((w.withFollow "set-order" true).withFollow "special-get-raises" true) os) ⟨(execs [stAt 19] henv).wrap doneF deadEnd id id, hcode, ⟨171, 0, 171, 8⟩, [topFrame hq]⟩) = fun os => some (.next, hst ht20 109 410 ((w.withFollow "set-order" true).withFollow "special-get-raises" true) os, hcode, ⟨172, 0, 172, 6⟩) := by rw [PySem.W.Fast.te10110043849684766642, PySem.W.Fast.te14364793385576792824, PySem.W.Fast.te12563942051412417395]; kernel_rfl
theorem hp19 (w : World) : (fun os => segRunT treeTable hpw w 11 (some (.ref 6)) 1 999 (hst ht19 98 350 w os) ⟨(execs [stAt 19] henv).wrap doneF deadEnd id id, hcode, ⟨171, 0, 171, 8⟩, [topFrame hq]⟩) = fun os => some (.next, hst ht20 109 410 w os, hcode, ⟨172, 0, 172, 6⟩) :=
  byRow2 "special-get-raises" (P := fun w => (fun os => segRunT treeTable hpw w 11 (some (.ref 6)) 1 999 (hst ht19 98 350 w os) ⟨(execs [stAt 19] henv).wrap doneF deadEnd id id, hcode, ⟨171, 0, 171, 8⟩, [topFrame hq]⟩) = fun os => some (.next, hst ht20 109 410 w os, hcode, ⟨172, 0, 172, 6⟩)) (fun w => byRow2 "set-order" (P := fun w => (fun os => segRunT treeTable hpw (w.withFollow "special-get-raises" false) 11 (some (.ref 6)) 1 999 (hst ht19 98 350 (w.withFollow "special-get-raises" false) os) ⟨(execs [stAt 19] henv).wrap doneF deadEnd id id, hcode, ⟨171, 0, 171, 8⟩, [topFrame hq]⟩) = fun os => some (.next, hst ht20 109 410 (w.withFollow "special-get-raises" false) os, hcode, ⟨172, 0, 172, 6⟩)) hp19ff hp19ft w) (fun w => byRow2 "set-order" (P := fun w => (fun os => segRunT treeTable hpw (w.withFollow "special-get-raises" true) 11 (some (.ref 6)) 1 999 (hst ht19 98 350 (w.withFollow "special-get-raises" true) os) ⟨(execs [stAt 19] henv).wrap doneF deadEnd id id, hcode, ⟨171, 0, 171, 8⟩, [topFrame hq]⟩) = fun os => some (.next, hst ht20 109 410 (w.withFollow "special-get-raises" true) os, hcode, ⟨172, 0, 172, 6⟩)) hp19tf hp19tt w) w
theorem hp20 (w : World) : (fun os => segRunT treeTable hpw w 11 (some (.ref 6)) 1 30 (hst ht20 109 410 w os) ⟨(execs [stAt 20] henv).wrap doneF deadEnd id id, hcode, ⟨172, 0, 172, 6⟩, [topFrame hq]⟩) = fun os => some (.next, hst ht21 116 417 w os, hcode, ⟨173, 0, 174, 30⟩) := by rw [PySem.W.Fast.te10110043849684766642, PySem.W.Fast.te14364793385576792824, PySem.W.Fast.te12563942051412417395]; kernel_rfl
theorem hp22 (w : World) : (fun os => segRunT treeTable hpw w 11 (some (.ref 6)) 1 31 (hst ht22 155 2368 w os) ⟨(execs [stAt 22] henv).wrap doneF deadEnd id id, hcode, ⟨175, 0, 175, 13⟩, [topFrame hq]⟩) = fun os => some (.next, hst ht23 162 2376 w os, hcode, ⟨176, 0, 180, 23⟩) := by rw [PySem.W.Fast.te10110043849684766642, PySem.W.Fast.te14364793385576792824, PySem.W.Fast.te12563942051412417395]; kernel_rfl
theorem hp23 (w : World) : (fun os => segRunT treeTable hpw w 11 (some (.ref 6)) 1 10 (hst ht23 162 2376 w os) ⟨(execs [stAt 23] henv).wrap doneF deadEnd id id, hcode, ⟨176, 0, 180, 23⟩, [topFrame hq]⟩) = fun os => some (.next, hst ht24 162 2378 w os, hcode, ⟨181, 0, 181, 8⟩) := by rw [PySem.W.Fast.te10110043849684766642, PySem.W.Fast.te14364793385576792824, PySem.W.Fast.te12563942051412417395]; kernel_rfl
theorem hp24 (w : World) : (fun os => segRunT treeTable hpw w 11 (some (.ref 6)) 1 27 (hst ht24 162 2378 w os) ⟨(execs [stAt 24] henv).wrap doneF deadEnd id id, hcode, ⟨181, 0, 181, 8⟩, [topFrame hq]⟩) = fun os => some (.next, hst ht25 167 2384 w os, hcode, ⟨182, 0, 184, 51⟩) := by rw [PySem.W.Fast.te10110043849684766642, PySem.W.Fast.te14364793385576792824, PySem.W.Fast.te12563942051412417395]; kernel_rfl
theorem hp25 (w : World) : (fun os => segRunT treeTable hpw w 11 (some (.ref 6)) 1 33 (hst ht25 167 2384 w os) ⟨(execs [stAt 25] henv).wrap doneF deadEnd id id, hcode, ⟨182, 0, 184, 51⟩, [topFrame hq]⟩) = fun os => some (.next, hst ht26 174 2394 w os, hcode, ⟨185, 0, 190, 16⟩) := by rw [PySem.W.Fast.te10110043849684766642, PySem.W.Fast.te14364793385576792824, PySem.W.Fast.te12563942051412417395]; kernel_rfl
theorem hp26 (w : World) : (fun os => segRunT treeTable hpw w 11 (some (.ref 6)) 1 27 (hst ht26 174 2394 w os) ⟨(execs [stAt 26] henv).wrap doneF deadEnd id id, hcode, ⟨185, 0, 190, 16⟩, [topFrame hq]⟩) = fun os => some (.next, hst ht27 179 2400 w os, hcode, ⟨191, 0, 192, 83⟩) := by rw [PySem.W.Fast.te10110043849684766642, PySem.W.Fast.te14364793385576792824, PySem.W.Fast.te12563942051412417395]; kernel_rfl
theorem hp27 (w : World) : (fun os => segRunT treeTable hpw w 11 (some (.ref 6)) 1 32 (hst ht27 179 2400 w os) ⟨(execs [stAt 27] henv).wrap doneF deadEnd id id, hcode, ⟨191, 0, 192, 83⟩, [topFrame hq]⟩) = fun os => some (.next, hst ht28 186 2409 w os, hcode, ⟨193, 0, 197, 14⟩) := by rw [PySem.W.Fast.te10110043849684766642, PySem.W.Fast.te14364793385576792824, PySem.W.Fast.te12563942051412417395]; kernel_rfl
theorem hp28 (w : World) : (fun os => segRunT treeTable hpw w 11 (some (.ref 6)) 1 27 (hst ht28 186 2409 w os) ⟨(execs [stAt 28] henv).wrap doneF deadEnd id id, hcode, ⟨193, 0, 197, 14⟩, [topFrame hq]⟩) = fun os => some (.next, hst ht29 191 2415 w os, hcode, ⟨198, 0, 206, 37⟩) := by rw [PySem.W.Fast.te10110043849684766642, PySem.W.Fast.te14364793385576792824, PySem.W.Fast.te12563942051412417395]; kernel_rfl
theorem hp29 (w : World) : (fun os => segRunT treeTable hpw w 11 (some (.ref 6)) 1 27 (hst ht29 191 2415 w os) ⟨(execs [stAt 29] henv).wrap doneF deadEnd id id, hcode, ⟨198, 0, 206, 37⟩, [topFrame hq]⟩) = fun os => some (.next, hst ht30 196 2421 w os, hcode, ⟨207, 0, 215, 64⟩) := by rw [PySem.W.Fast.te10110043849684766642, PySem.W.Fast.te14364793385576792824, PySem.W.Fast.te12563942051412417395]; kernel_rfl
theorem hp30 (w : World) : (fun os => segRunT treeTable hpw w 11 (some (.ref 6)) 1 34 (hst ht30 196 2421 w os) ⟨(execs [stAt 30] henv).wrap doneF deadEnd id id, hcode, ⟨207, 0, 215, 64⟩, [topFrame hq]⟩) = fun os => some (.next, hst ht31 203 2432 w os, hcode, ⟨216, 0, 218, 67⟩) := by rw [PySem.W.Fast.te10110043849684766642, PySem.W.Fast.te14364793385576792824, PySem.W.Fast.te12563942051412417395]; kernel_rfl
theorem hp31 (w : World) : (fun os => segRunT treeTable hpw w 11 (some (.ref 6)) 1 27 (hst ht31 203 2432 w os) ⟨(execs [stAt 31] henv).wrap doneF deadEnd id id, hcode, ⟨216, 0, 218, 67⟩, [topFrame hq]⟩) = fun os => some (.next, hst ht32 208 2438 w os, hcode, ⟨219, 0, 235, 15⟩) := by rw [PySem.W.Fast.te10110043849684766642, PySem.W.Fast.te14364793385576792824, PySem.W.Fast.te12563942051412417395]; kernel_rfl
end
end Mine
end
section
open PySem PySem.W PyProof.Rows PySem.Calls
namespace Mine
noncomputable section
noncomputable def scanH (h : Int) : List DictEntry → Nat → List Nat
  | [], _ => []
  | e :: es, i => match e.hash == h with
    | true => i :: scanH h es (i + 1)
    | false => scanH h es (i + 1)
theorem scanH_eq (h : Int) : ∀ (l : List DictEntry) (k : Nat), scanH h l k = ((List.range l.length).filter fun i => (l[i]?.map (·.hash)) == some h).map (· + k)
  | [], _ => rfl
  | e :: es, k => by
    rw [List.length_cons, List.range_succ_eq_map, List.filter_cons, List.filter_map]
    have ih := scanH_eq h es (k + 1)
    have e2 : (List.filter ((fun i => ((e :: es)[i]?.map (·.hash)) == some h) ∘ Nat.succ) (List.range es.length)) = (List.range es.length).filter fun i => (es[i]?.map (·.hash)) == some h := by
      congr 1
    rw [e2]
    show (match e.hash == h with
      | true => k :: scanH h es (k + 1)
      | false => scanH h es (k + 1)) = _
    have e3 : ((e :: es)[0]?.map (·.hash) == some h) = (e.hash == h) := rfl
    rw [e3]
    cases e.hash == h with
    | true =>
      simp only [if_true, List.map_cons, Nat.zero_add, List.map_map, ih]
      congr 1
      apply List.map_congr_left
      intro a _
      simp only [Function.comp_apply]
      omega
    | false =>
      simp only [Bool.false_eq_true, if_false, List.map_map, ih]
      apply List.map_congr_left
      intro a _
      simp only [Function.comp_apply]
      omega
noncomputable def sameI (a b : Int) : Bool := Int.rec (fun m => Int.rec (fun n => Nat.beq m n) (fun _ => false) b) (fun m => Int.rec (fun _ => false) (fun n => Nat.beq m n) b) a
theorem sameI_eq : ∀ a b : Int, (a == b) = sameI a b
  | .ofNat m, .ofNat n => Bool.eq_iff_iff.mpr (beq_iff_eq.trans ⟨fun h => Nat.beq_refl n ▸ Int.ofNat.inj h ▸ rfl, fun h => congrArg Int.ofNat (Nat.eq_of_beq_eq_true h)⟩)
  | .negSucc m, .negSucc n => Bool.eq_iff_iff.mpr (beq_iff_eq.trans ⟨fun h => Nat.beq_refl n ▸ Int.negSucc.inj h ▸ rfl, fun h => congrArg Int.negSucc (Nat.eq_of_beq_eq_true h)⟩)
  | .ofNat m, .negSucc n => beq_eq_false_iff_ne.mpr nofun
  | .negSucc m, .ofNat n => beq_eq_false_iff_ne.mpr nofun
noncomputable def scanI (h : Int) (l : List DictEntry) : Nat → List Nat := List.rec (fun _ => []) (fun e _ ih i => Bool.rec (ih (Nat.succ i)) (i :: ih (Nat.succ i)) (sameI e.hash h)) l
theorem scanI_eq (h : Int) : ∀ (l : List DictEntry) (k : Nat), scanH h l k = scanI h l k
  | [], _ => rfl
  | e :: es, k => by
    unfold scanH
    rw [sameI_eq, scanI_eq h es (k + 1)]
    show _ = (Bool.rec (scanI h es (k + 1)) (k :: scanI h es (k + 1)) (sameI e.hash h) : List Nat)
    cases sameI e.hash h <;> rfl
theorem places_scan (es : Array DictEntry) (h : Int) : PySem.W.Fast.tw2965532104302071907 es.size (fun i => Option.map (fun x => x.hash) es[i]?) h = scanI h es.toList 0 := by
  rw [← PySem.W.Fast.te2965532104302071907, ← scanI_eq, scanH_eq]
  unfold placesWithHash
  simp only [Nat.add_zero, List.map_id', Array.getElem?_toList, Array.length_toList]
noncomputable def dfp : { g : Addr → Value → Int → Sem (Option Nat) // PySem.W.Fast.tw7228091826238408665 = g } := ⟨_, by
  unfold PySem.W.Fast.tw7228091826238408665
  simp (config := { zeta := false }) only [places_scan]
  exact rfl⟩
noncomputable def dpp : { g : Addr → Int → Value → Value → Sem Unit // PySem.W.Fast.tw9652029157277244616 = g } := ⟨_, by
  unfold PySem.W.Fast.tw9652029157277244616
  rw [dfp.2]⟩
noncomputable def mmp : { g : Addr → Value → Bool → Sem Unit // PySem.W.Fast.tw8596071696976842438 = g } := ⟨_, by
  unfold PySem.W.Fast.tw8596071696976842438
  rw [dfp.2, dpp.2]⟩
theorem mm_eq : mergeMapping = mmp.1 := PySem.W.Fast.te8596071696976842438.trans mmp.2
noncomputable abbrev ITEM := Option (Sem Value) × Sem Value
noncomputable abbrev ACC := Option Addr × List (Sem Value × Sem Value)
noncomputable def tk21 : List PySem.Expr := match stAt 21 with
  | .Assign ts _ _ => ts
  | _ => []
noncomputable def tv21 : PySem.Expr := match stAt 21 with
  | .Assign _ v _ => v
  | _ => .Constant .none 0 ⟨0, 0, 0, 0⟩
noncomputable def tp21 : Pos := match stAt 21 with
  | .Assign _ _ p => p
  | _ => ⟨0, 0, 0, 0⟩
noncomputable def dk21 : List (Option PySem.Expr) := match tv21 with
  | .Dict ks _ _ => ks
  | _ => []
noncomputable def dv21 : List PySem.Expr := match tv21 with
  | .Dict _ vs _ => vs
  | _ => []
noncomputable def dp21 : Pos := match tv21 with
  | .Dict _ _ p => p
  | _ => ⟨0, 0, 0, 0⟩
noncomputable def items21 : List ITEM := (evalEachOpt dk21 henv).zip ((evalEach dv21 henv).map fun v => do let x ← v; standAt dp21; pure x)
noncomputable abbrev hAns (i : Int) (t : Tok) : Sem (Option (Value × List Value)) := .pure (some (.builtin "int.__hash__", [.int i t]))
theorem bs_int (i : Int) (t : Tok) : PySem.W.Fast.tw4429936409751238260 (.int i t) "__hash__" = Sem.ask fun st => if st.params.followText "special-get-raises" = true then hAns i t else hAns i t := by kernel_rfl
noncomputable def bsI (i : Int) (t : Tok) (n : Str) : Sem (Option (Value × List Value)) := if n = "__hash__" then Sem.ask fun _ => hAns i t else PySem.W.Fast.tw4429936409751238260 (.int i t) n
theorem bsI_eq (i : Int) (t : Tok) (n : Str) : PySem.W.Fast.tw4429936409751238260 (.int i t) n = bsI i t n := by
  unfold bsI
  split
  · rename_i h
    rw [h, bs_int]
    simp only [ite_self]
  · rfl
noncomputable def bsV (v : Value) (n : Str) : Sem (Option (Value × List Value)) := match v with
  | .int i t => bsI i t n
  | v => PySem.W.Fast.tw4429936409751238260 v n
theorem bsV_eq : PySem.W.Fast.tw4429936409751238260 = bsV := by
  funext v n
  unfold bsV
  split
  · exact bsI_eq _ _ n
  · rfl
noncomputable def usp : { g : Value → Str → Sem Value → Sem (Option Value) // PySem.W.Fast.tw16697807410369149715 = g } := ⟨_, by
  unfold PySem.W.Fast.tw16697807410369149715
  rw [bsV_eq]⟩
noncomputable def hip : { g : Value → Sem Int // PySem.W.Fast.tw17926724086988771738 = g } := ⟨_, by
  unfold PySem.W.Fast.tw17926724086988771738
  rw [usp.2]⟩
noncomputable def php : { g : Value → Sem Int // PySem.W.Fast.tw10540108854288196387 = g } := ⟨_, by
  unfold PySem.W.Fast.tw10540108854288196387
  rw [hip.2]⟩
noncomputable def dhp : { g : Addr → Value → Int → Value → Sem Unit // PySem.W.Fast.tw4359058424727691002 = g } := ⟨_, by
  unfold PySem.W.Fast.tw4359058424727691002
  rw [dfp.2]⟩
noncomputable def dsp : { g : Addr → Value → Value → Sem Unit // PySem.W.Fast.tw11925912800584824493 = g } := ⟨_, by
  unfold PySem.W.Fast.tw11925912800584824493
  rw [php.2, dhp.2]⟩
noncomputable def sdp : { g : List (Sem Value × Sem Value) → Sem Addr // PySem.W.Fast.tw11913375310210876947 = g } := ⟨_, by
  unfold PySem.W.Fast.tw11913375310210876947
  rw [dsp.2]⟩
noncomputable def ddx : { g : List ITEM → Sem Value // PySem.W.Fast.tw11216187645035866516 = g } := ⟨_, by
  unfold PySem.W.Fast.tw11216187645035866516
  rw [mmp.2, sdp.2]⟩
/-- the display's loop and what stands behind it -/
noncomputable def ddp : { p : (ITEM → ACC → Sem (ForInStep ACC)) × (ACC → Sem Value) // ∀ items, ddx.1 items = (letI : Monad Sem := PySem.W.Fast.tw12456147031677567982; (forIn items ((none, []) : ACC) p.1) >>= p.2) } := ⟨(_, _), fun _ => rfl⟩
noncomputable def loopC (m : Monad Sem) (f : ITEM → ACC → Sem (ForInStep ACC)) : List ITEM → ACC → Sem (ForInStep ACC)
  | [], b => pure (.yield b)
  | x :: xs, b => f x b >>= fun r => match r with
    | .done b => pure (.done b)
    | .yield b => loopC m f xs b
noncomputable def resC (r : ForInStep ACC) : Flow := match r with
  | .yield (some d, []) => .ret (.ref d)
  | _ => .next
end
end Mine
end
section
open PySem PySem.W PyProof.Rows PySem.Calls
namespace Mine
noncomputable section
noncomputable def hv1 (P : Params) : BT := (.node (boot_o_0 P) (.node (boot_o_1 P) (.node (o3 (.str "cpy313.stringprep" 348) 25 26 P) (.node (boot_o_7 P) (.node o15 (.node o31 (.node o63 .nil .nil) (.node o95 .nil .nil)) (.node o47 (.node o79 .nil .nil) (.node o111 .nil .nil))) (.node o23 (.node o39 (.node o71 .nil .nil) (.node o103 .nil .nil)) (.node o55 (.node o87 .nil .nil) .nil))) (.node o11 (.node o19 (.node o35 (.node o67 .nil .nil) (.node o99 .nil .nil)) (.node o51 (.node o83 .nil .nil) (.node o115 .nil .nil))) (.node o27 (.node o43 (.node o75 .nil .nil) (.node o107 .nil .nil)) (.node o59 (.node o91 .nil .nil) .nil)))) (.node (boot_o_5 P) (.node (boot_o_9 P) (.node o17 (.node o33 (.node o65 .nil .nil) (.node o97 .nil .nil)) (.node o49 (.node (o81 P) .nil .nil) (.node o113 .nil .nil))) (.node o25 (.node o41 (.node o73 .nil .nil) (.node (o105 P) .nil .nil)) (.node o57 (.node o89 .nil .nil) .nil))) (.node o13 (.node o21 (.node o37 (.node o69 .nil .nil) (.node o101 .nil .nil)) (.node o53 (.node o85 .nil .nil) .nil)) (.node o29 (.node o45 (.node o77 .nil .nil) (.node o109 .nil .nil)) (.node o61 (.node o93 .nil .nil) .nil))))) (.node (boot_o_2 P) (.node (boot_o_4 P) (.node (boot_o_8 P) (.node o16 (.node o32 (.node o64 .nil .nil) (.node o96 .nil .nil)) (.node o48 (.node o80 .nil .nil) (.node o112 .nil .nil))) (.node o24 (.node o40 (.node (o72 P) .nil .nil) (.node o104 .nil .nil)) (.node o56 (.node o88 .nil .nil) .nil))) (.node (o12 36) (.node o20 (.node o36 (.node o68 .nil .nil) (.node o100 .nil .nil)) (.node o52 (.node o84 .nil .nil) (.node (b3main 0) .nil .nil))) (.node o28 (.node o44 (.node o76 .nil .nil) (.node o108 .nil .nil)) (.node o60 (.node o92 .nil .nil) .nil)))) (.node (boot_o_6 P) (.node (boot_o_10 P) (.node o18 (.node o34 (.node o66 .nil .nil) (.node o98 .nil .nil)) (.node o50 (.node o82 .nil .nil) (.node o114 .nil .nil))) (.node o26 (.node o42 (.node o74 .nil .nil) (.node o106 .nil .nil)) (.node o58 (.node (o90 P) .nil .nil) .nil))) (.node o14 (.node o22 (.node o38 (.node o70 .nil .nil) (.node o102 .nil .nil)) (.node o54 (.node o86 .nil .nil) .nil)) (.node o30 (.node o46 (.node o78 .nil .nil) (.node o110 .nil .nil)) (.node o62 (.node o94 .nil .nil) .nil))))))
noncomputable def hv2 (P : Params) : BT := (.node (boot_o_0 P) (.node (boot_o_1 P) (.node (o3 (.str "cpy313.stringprep" 348) 25 26 P) (.node (boot_o_7 P) (.node o15 (.node o31 (.node o63 .nil .nil) (.node o95 .nil .nil)) (.node o47 (.node o79 .nil .nil) (.node o111 .nil .nil))) (.node o23 (.node o39 (.node o71 .nil .nil) (.node o103 .nil .nil)) (.node o55 (.node o87 .nil .nil) .nil))) (.node o11 (.node o19 (.node o35 (.node o67 .nil .nil) (.node o99 .nil .nil)) (.node o51 (.node o83 .nil .nil) (.node o115 .nil .nil))) (.node o27 (.node o43 (.node o75 .nil .nil) (.node o107 .nil .nil)) (.node o59 (.node o91 .nil .nil) .nil)))) (.node (boot_o_5 P) (.node (boot_o_9 P) (.node o17 (.node o33 (.node o65 .nil .nil) (.node o97 .nil .nil)) (.node o49 (.node (o81 P) .nil .nil) (.node o113 .nil .nil))) (.node o25 (.node o41 (.node o73 .nil .nil) (.node (o105 P) .nil .nil)) (.node o57 (.node o89 .nil .nil) .nil))) (.node o13 (.node o21 (.node o37 (.node o69 .nil .nil) (.node o101 .nil .nil)) (.node o53 (.node o85 .nil .nil) (.node (b3sub 1) .nil .nil))) (.node o29 (.node o45 (.node o77 .nil .nil) (.node o109 .nil .nil)) (.node o61 (.node o93 .nil .nil) .nil))))) (.node (boot_o_2 P) (.node (boot_o_4 P) (.node (boot_o_8 P) (.node o16 (.node o32 (.node o64 .nil .nil) (.node o96 .nil .nil)) (.node o48 (.node o80 .nil .nil) (.node o112 .nil .nil))) (.node o24 (.node o40 (.node (o72 P) .nil .nil) (.node o104 .nil .nil)) (.node o56 (.node o88 .nil .nil) .nil))) (.node (o12 36) (.node o20 (.node o36 (.node o68 .nil .nil) (.node o100 .nil .nil)) (.node o52 (.node o84 .nil .nil) (.node (b3main 1) .nil .nil))) (.node o28 (.node o44 (.node o76 .nil .nil) (.node o108 .nil .nil)) (.node o60 (.node o92 .nil .nil) .nil)))) (.node (boot_o_6 P) (.node (boot_o_10 P) (.node o18 (.node o34 (.node o66 .nil .nil) (.node o98 .nil .nil)) (.node o50 (.node o82 .nil .nil) (.node o114 .nil .nil))) (.node o26 (.node o42 (.node o74 .nil .nil) (.node o106 .nil .nil)) (.node o58 (.node (o90 P) .nil .nil) .nil))) (.node o14 (.node o22 (.node o38 (.node o70 .nil .nil) (.node o102 .nil .nil)) (.node o54 (.node o86 .nil .nil) .nil)) (.node o30 (.node o46 (.node o78 .nil .nil) (.node o110 .nil .nil)) (.node o62 (.node o94 .nil .nil) .nil))))))
noncomputable def hv3 (P : Params) : BT := (.node (boot_o_0 P) (.node (boot_o_1 P) (.node (o3 (.str "cpy313.stringprep" 348) 25 26 P) (.node (boot_o_7 P) (.node o15 (.node o31 (.node o63 .nil .nil) (.node o95 .nil .nil)) (.node o47 (.node o79 .nil .nil) (.node o111 .nil .nil))) (.node o23 (.node o39 (.node o71 .nil .nil) (.node o103 .nil .nil)) (.node o55 (.node o87 .nil .nil) .nil))) (.node o11 (.node o19 (.node o35 (.node o67 .nil .nil) (.node o99 .nil .nil)) (.node o51 (.node o83 .nil .nil) (.node o115 .nil .nil))) (.node o27 (.node o43 (.node o75 .nil .nil) (.node o107 .nil .nil)) (.node o59 (.node o91 .nil .nil) .nil)))) (.node (boot_o_5 P) (.node (boot_o_9 P) (.node o17 (.node o33 (.node o65 .nil .nil) (.node o97 .nil .nil)) (.node o49 (.node (o81 P) .nil .nil) (.node o113 .nil .nil))) (.node o25 (.node o41 (.node o73 .nil .nil) (.node (o105 P) .nil .nil)) (.node o57 (.node o89 .nil .nil) .nil))) (.node o13 (.node o21 (.node o37 (.node o69 .nil .nil) (.node o101 .nil .nil)) (.node o53 (.node o85 .nil .nil) (.node (b3sub 1) .nil .nil))) (.node o29 (.node o45 (.node o77 .nil .nil) (.node o109 .nil .nil)) (.node o61 (.node o93 .nil .nil) .nil))))) (.node (boot_o_2 P) (.node (boot_o_4 P) (.node (boot_o_8 P) (.node o16 (.node o32 (.node o64 .nil .nil) (.node o96 .nil .nil)) (.node o48 (.node o80 .nil .nil) (.node o112 .nil .nil))) (.node o24 (.node o40 (.node (o72 P) .nil .nil) (.node o104 .nil .nil)) (.node o56 (.node o88 .nil .nil) .nil))) (.node (o12 36) (.node o20 (.node o36 (.node o68 .nil .nil) (.node o100 .nil .nil)) (.node o52 (.node o84 .nil .nil) (.node (b3main 2) .nil .nil))) (.node o28 (.node o44 (.node o76 .nil .nil) (.node o108 .nil .nil)) (.node o60 (.node o92 .nil .nil) .nil)))) (.node (boot_o_6 P) (.node (boot_o_10 P) (.node o18 (.node o34 (.node o66 .nil .nil) (.node o98 .nil .nil)) (.node o50 (.node o82 .nil .nil) (.node o114 .nil .nil))) (.node o26 (.node o42 (.node o74 .nil .nil) (.node o106 .nil .nil)) (.node o58 (.node (o90 P) .nil .nil) .nil))) (.node o14 (.node o22 (.node o38 (.node o70 .nil .nil) (.node o102 .nil .nil)) (.node o54 (.node o86 .nil .nil) (.node (b3sub 2) .nil .nil))) (.node o30 (.node o46 (.node o78 .nil .nil) (.node o110 .nil .nil)) (.node o62 (.node o94 .nil .nil) .nil))))))
noncomputable def hv4 (P : Params) : BT := (.node (boot_o_0 P) (.node (boot_o_1 P) (.node (o3 (.str "cpy313.stringprep" 348) 25 26 P) (.node (boot_o_7 P) (.node o15 (.node o31 (.node o63 .nil .nil) (.node o95 .nil .nil)) (.node o47 (.node o79 .nil .nil) (.node o111 .nil .nil))) (.node o23 (.node o39 (.node o71 .nil .nil) (.node o103 .nil .nil)) (.node o55 (.node o87 .nil .nil) (.node (b3sub 3) .nil .nil)))) (.node o11 (.node o19 (.node o35 (.node o67 .nil .nil) (.node o99 .nil .nil)) (.node o51 (.node o83 .nil .nil) (.node o115 .nil .nil))) (.node o27 (.node o43 (.node o75 .nil .nil) (.node o107 .nil .nil)) (.node o59 (.node o91 .nil .nil) .nil)))) (.node (boot_o_5 P) (.node (boot_o_9 P) (.node o17 (.node o33 (.node o65 .nil .nil) (.node o97 .nil .nil)) (.node o49 (.node (o81 P) .nil .nil) (.node o113 .nil .nil))) (.node o25 (.node o41 (.node o73 .nil .nil) (.node (o105 P) .nil .nil)) (.node o57 (.node o89 .nil .nil) .nil))) (.node o13 (.node o21 (.node o37 (.node o69 .nil .nil) (.node o101 .nil .nil)) (.node o53 (.node o85 .nil .nil) (.node (b3sub 1) .nil .nil))) (.node o29 (.node o45 (.node o77 .nil .nil) (.node o109 .nil .nil)) (.node o61 (.node o93 .nil .nil) .nil))))) (.node (boot_o_2 P) (.node (boot_o_4 P) (.node (boot_o_8 P) (.node o16 (.node o32 (.node o64 .nil .nil) (.node o96 .nil .nil)) (.node o48 (.node o80 .nil .nil) (.node o112 .nil .nil))) (.node o24 (.node o40 (.node (o72 P) .nil .nil) (.node o104 .nil .nil)) (.node o56 (.node o88 .nil .nil) .nil))) (.node (o12 36) (.node o20 (.node o36 (.node o68 .nil .nil) (.node o100 .nil .nil)) (.node o52 (.node o84 .nil .nil) (.node (b3main 3) .nil .nil))) (.node o28 (.node o44 (.node o76 .nil .nil) (.node o108 .nil .nil)) (.node o60 (.node o92 .nil .nil) .nil)))) (.node (boot_o_6 P) (.node (boot_o_10 P) (.node o18 (.node o34 (.node o66 .nil .nil) (.node o98 .nil .nil)) (.node o50 (.node o82 .nil .nil) (.node o114 .nil .nil))) (.node o26 (.node o42 (.node o74 .nil .nil) (.node o106 .nil .nil)) (.node o58 (.node (o90 P) .nil .nil) .nil))) (.node o14 (.node o22 (.node o38 (.node o70 .nil .nil) (.node o102 .nil .nil)) (.node o54 (.node o86 .nil .nil) (.node (b3sub 2) .nil .nil))) (.node o30 (.node o46 (.node o78 .nil .nil) (.node o110 .nil .nil)) (.node o62 (.node o94 .nil .nil) .nil))))))
noncomputable def hv5 (P : Params) : BT := (.node (boot_o_0 P) (.node (boot_o_1 P) (.node (o3 (.str "cpy313.stringprep" 348) 25 26 P) (.node (boot_o_7 P) (.node o15 (.node o31 (.node o63 .nil .nil) (.node o95 .nil .nil)) (.node o47 (.node o79 .nil .nil) (.node o111 .nil .nil))) (.node o23 (.node o39 (.node o71 .nil .nil) (.node o103 .nil .nil)) (.node o55 (.node o87 .nil .nil) (.node (b3sub 3) .nil .nil)))) (.node o11 (.node o19 (.node o35 (.node o67 .nil .nil) (.node o99 .nil .nil)) (.node o51 (.node o83 .nil .nil) (.node o115 .nil .nil))) (.node o27 (.node o43 (.node o75 .nil .nil) (.node o107 .nil .nil)) (.node o59 (.node o91 .nil .nil) .nil)))) (.node (boot_o_5 P) (.node (boot_o_9 P) (.node o17 (.node o33 (.node o65 .nil .nil) (.node o97 .nil .nil)) (.node o49 (.node (o81 P) .nil .nil) (.node o113 .nil .nil))) (.node o25 (.node o41 (.node o73 .nil .nil) (.node (o105 P) .nil .nil)) (.node o57 (.node o89 .nil .nil) .nil))) (.node o13 (.node o21 (.node o37 (.node o69 .nil .nil) (.node o101 .nil .nil)) (.node o53 (.node o85 .nil .nil) (.node (b3sub 1) .nil .nil))) (.node o29 (.node o45 (.node o77 .nil .nil) (.node o109 .nil .nil)) (.node o61 (.node o93 .nil .nil) .nil))))) (.node (boot_o_2 P) (.node (boot_o_4 P) (.node (boot_o_8 P) (.node o16 (.node o32 (.node o64 .nil .nil) (.node o96 .nil .nil)) (.node o48 (.node o80 .nil .nil) (.node o112 .nil .nil))) (.node o24 (.node o40 (.node (o72 P) .nil .nil) (.node o104 .nil .nil)) (.node o56 (.node o88 .nil .nil) (.node (b3sub 4) .nil .nil)))) (.node (o12 36) (.node o20 (.node o36 (.node o68 .nil .nil) (.node o100 .nil .nil)) (.node o52 (.node o84 .nil .nil) (.node (b3main 4) .nil .nil))) (.node o28 (.node o44 (.node o76 .nil .nil) (.node o108 .nil .nil)) (.node o60 (.node o92 .nil .nil) .nil)))) (.node (boot_o_6 P) (.node (boot_o_10 P) (.node o18 (.node o34 (.node o66 .nil .nil) (.node o98 .nil .nil)) (.node o50 (.node o82 .nil .nil) (.node o114 .nil .nil))) (.node o26 (.node o42 (.node o74 .nil .nil) (.node o106 .nil .nil)) (.node o58 (.node (o90 P) .nil .nil) .nil))) (.node o14 (.node o22 (.node o38 (.node o70 .nil .nil) (.node o102 .nil .nil)) (.node o54 (.node o86 .nil .nil) (.node (b3sub 2) .nil .nil))) (.node o30 (.node o46 (.node o78 .nil .nil) (.node o110 .nil .nil)) (.node o62 (.node o94 .nil .nil) .nil))))))
noncomputable def hv6 (P : Params) : BT := (.node (boot_o_0 P) (.node (boot_o_1 P) (.node (o3 (.str "cpy313.stringprep" 348) 25 26 P) (.node (boot_o_7 P) (.node o15 (.node o31 (.node o63 .nil .nil) (.node o95 .nil .nil)) (.node o47 (.node o79 .nil .nil) (.node o111 .nil .nil))) (.node o23 (.node o39 (.node o71 .nil .nil) (.node o103 .nil .nil)) (.node o55 (.node o87 .nil .nil) (.node (b3sub 3) .nil .nil)))) (.node o11 (.node o19 (.node o35 (.node o67 .nil .nil) (.node o99 .nil .nil)) (.node o51 (.node o83 .nil .nil) (.node o115 .nil .nil))) (.node o27 (.node o43 (.node o75 .nil .nil) (.node o107 .nil .nil)) (.node o59 (.node o91 .nil .nil) .nil)))) (.node (boot_o_5 P) (.node (boot_o_9 P) (.node o17 (.node o33 (.node o65 .nil .nil) (.node o97 .nil .nil)) (.node o49 (.node (o81 P) .nil .nil) (.node o113 .nil .nil))) (.node o25 (.node o41 (.node o73 .nil .nil) (.node (o105 P) .nil .nil)) (.node o57 (.node o89 .nil .nil) (.node (b3sub 5) .nil .nil)))) (.node o13 (.node o21 (.node o37 (.node o69 .nil .nil) (.node o101 .nil .nil)) (.node o53 (.node o85 .nil .nil) (.node (b3sub 1) .nil .nil))) (.node o29 (.node o45 (.node o77 .nil .nil) (.node o109 .nil .nil)) (.node o61 (.node o93 .nil .nil) .nil))))) (.node (boot_o_2 P) (.node (boot_o_4 P) (.node (boot_o_8 P) (.node o16 (.node o32 (.node o64 .nil .nil) (.node o96 .nil .nil)) (.node o48 (.node o80 .nil .nil) (.node o112 .nil .nil))) (.node o24 (.node o40 (.node (o72 P) .nil .nil) (.node o104 .nil .nil)) (.node o56 (.node o88 .nil .nil) (.node (b3sub 4) .nil .nil)))) (.node (o12 36) (.node o20 (.node o36 (.node o68 .nil .nil) (.node o100 .nil .nil)) (.node o52 (.node o84 .nil .nil) (.node (b3main 5) .nil .nil))) (.node o28 (.node o44 (.node o76 .nil .nil) (.node o108 .nil .nil)) (.node o60 (.node o92 .nil .nil) .nil)))) (.node (boot_o_6 P) (.node (boot_o_10 P) (.node o18 (.node o34 (.node o66 .nil .nil) (.node o98 .nil .nil)) (.node o50 (.node o82 .nil .nil) (.node o114 .nil .nil))) (.node o26 (.node o42 (.node o74 .nil .nil) (.node o106 .nil .nil)) (.node o58 (.node (o90 P) .nil .nil) .nil))) (.node o14 (.node o22 (.node o38 (.node o70 .nil .nil) (.node o102 .nil .nil)) (.node o54 (.node o86 .nil .nil) (.node (b3sub 2) .nil .nil))) (.node o30 (.node o46 (.node o78 .nil .nil) (.node o110 .nil .nil)) (.node o62 (.node o94 .nil .nil) .nil))))))
noncomputable def hv7 (P : Params) : BT := (.node (boot_o_0 P) (.node (boot_o_1 P) (.node (o3 (.str "cpy313.stringprep" 348) 25 26 P) (.node (boot_o_7 P) (.node o15 (.node o31 (.node o63 .nil .nil) (.node o95 .nil .nil)) (.node o47 (.node o79 .nil .nil) (.node o111 .nil .nil))) (.node o23 (.node o39 (.node o71 .nil .nil) (.node o103 .nil .nil)) (.node o55 (.node o87 .nil .nil) (.node (b3sub 3) .nil .nil)))) (.node o11 (.node o19 (.node o35 (.node o67 .nil .nil) (.node o99 .nil .nil)) (.node o51 (.node o83 .nil .nil) (.node o115 .nil .nil))) (.node o27 (.node o43 (.node o75 .nil .nil) (.node o107 .nil .nil)) (.node o59 (.node o91 .nil .nil) .nil)))) (.node (boot_o_5 P) (.node (boot_o_9 P) (.node o17 (.node o33 (.node o65 .nil .nil) (.node o97 .nil .nil)) (.node o49 (.node (o81 P) .nil .nil) (.node o113 .nil .nil))) (.node o25 (.node o41 (.node o73 .nil .nil) (.node (o105 P) .nil .nil)) (.node o57 (.node o89 .nil .nil) (.node (b3sub 5) .nil .nil)))) (.node o13 (.node o21 (.node o37 (.node o69 .nil .nil) (.node o101 .nil .nil)) (.node o53 (.node o85 .nil .nil) (.node (b3sub 1) .nil .nil))) (.node o29 (.node o45 (.node o77 .nil .nil) (.node o109 .nil .nil)) (.node o61 (.node o93 .nil .nil) .nil))))) (.node (boot_o_2 P) (.node (boot_o_4 P) (.node (boot_o_8 P) (.node o16 (.node o32 (.node o64 .nil .nil) (.node o96 .nil .nil)) (.node o48 (.node o80 .nil .nil) (.node o112 .nil .nil))) (.node o24 (.node o40 (.node (o72 P) .nil .nil) (.node o104 .nil .nil)) (.node o56 (.node o88 .nil .nil) (.node (b3sub 4) .nil .nil)))) (.node (o12 36) (.node o20 (.node o36 (.node o68 .nil .nil) (.node o100 .nil .nil)) (.node o52 (.node o84 .nil .nil) (.node (b3main 6) .nil .nil))) (.node o28 (.node o44 (.node o76 .nil .nil) (.node o108 .nil .nil)) (.node o60 (.node o92 .nil .nil) .nil)))) (.node (boot_o_6 P) (.node (boot_o_10 P) (.node o18 (.node o34 (.node o66 .nil .nil) (.node o98 .nil .nil)) (.node o50 (.node o82 .nil .nil) (.node o114 .nil .nil))) (.node o26 (.node o42 (.node o74 .nil .nil) (.node o106 .nil .nil)) (.node o58 (.node (o90 P) .nil .nil) (.node (b3sub 6) .nil .nil)))) (.node o14 (.node o22 (.node o38 (.node o70 .nil .nil) (.node o102 .nil .nil)) (.node o54 (.node o86 .nil .nil) (.node (b3sub 2) .nil .nil))) (.node o30 (.node o46 (.node o78 .nil .nil) (.node o110 .nil .nil)) (.node o62 (.node o94 .nil .nil) .nil))))))
noncomputable def hv8 (P : Params) : BT := (.node (boot_o_0 P) (.node (boot_o_1 P) (.node (o3 (.str "cpy313.stringprep" 348) 25 26 P) (.node (boot_o_7 P) (.node o15 (.node o31 (.node o63 .nil .nil) (.node o95 .nil .nil)) (.node o47 (.node o79 .nil .nil) (.node o111 .nil .nil))) (.node o23 (.node o39 (.node o71 .nil .nil) (.node o103 .nil .nil)) (.node o55 (.node o87 .nil .nil) (.node (b3sub 3) .nil .nil)))) (.node o11 (.node o19 (.node o35 (.node o67 .nil .nil) (.node o99 .nil .nil)) (.node o51 (.node o83 .nil .nil) (.node o115 .nil .nil))) (.node o27 (.node o43 (.node o75 .nil .nil) (.node o107 .nil .nil)) (.node o59 (.node o91 .nil .nil) (.node (b3sub 7) .nil .nil))))) (.node (boot_o_5 P) (.node (boot_o_9 P) (.node o17 (.node o33 (.node o65 .nil .nil) (.node o97 .nil .nil)) (.node o49 (.node (o81 P) .nil .nil) (.node o113 .nil .nil))) (.node o25 (.node o41 (.node o73 .nil .nil) (.node (o105 P) .nil .nil)) (.node o57 (.node o89 .nil .nil) (.node (b3sub 5) .nil .nil)))) (.node o13 (.node o21 (.node o37 (.node o69 .nil .nil) (.node o101 .nil .nil)) (.node o53 (.node o85 .nil .nil) (.node (b3sub 1) .nil .nil))) (.node o29 (.node o45 (.node o77 .nil .nil) (.node o109 .nil .nil)) (.node o61 (.node o93 .nil .nil) .nil))))) (.node (boot_o_2 P) (.node (boot_o_4 P) (.node (boot_o_8 P) (.node o16 (.node o32 (.node o64 .nil .nil) (.node o96 .nil .nil)) (.node o48 (.node o80 .nil .nil) (.node o112 .nil .nil))) (.node o24 (.node o40 (.node (o72 P) .nil .nil) (.node o104 .nil .nil)) (.node o56 (.node o88 .nil .nil) (.node (b3sub 4) .nil .nil)))) (.node (o12 36) (.node o20 (.node o36 (.node o68 .nil .nil) (.node o100 .nil .nil)) (.node o52 (.node o84 .nil .nil) (.node (b3main 7) .nil .nil))) (.node o28 (.node o44 (.node o76 .nil .nil) (.node o108 .nil .nil)) (.node o60 (.node o92 .nil .nil) .nil)))) (.node (boot_o_6 P) (.node (boot_o_10 P) (.node o18 (.node o34 (.node o66 .nil .nil) (.node o98 .nil .nil)) (.node o50 (.node o82 .nil .nil) (.node o114 .nil .nil))) (.node o26 (.node o42 (.node o74 .nil .nil) (.node o106 .nil .nil)) (.node o58 (.node (o90 P) .nil .nil) (.node (b3sub 6) .nil .nil)))) (.node o14 (.node o22 (.node o38 (.node o70 .nil .nil) (.node o102 .nil .nil)) (.node o54 (.node o86 .nil .nil) (.node (b3sub 2) .nil .nil))) (.node o30 (.node o46 (.node o78 .nil .nil) (.node o110 .nil .nil)) (.node o62 (.node o94 .nil .nil) .nil))))))
noncomputable def hv9 (P : Params) : BT := (.node (boot_o_0 P) (.node (boot_o_1 P) (.node (o3 (.str "cpy313.stringprep" 348) 25 26 P) (.node (boot_o_7 P) (.node o15 (.node o31 (.node o63 .nil .nil) (.node o95 .nil .nil)) (.node o47 (.node o79 .nil .nil) (.node o111 .nil .nil))) (.node o23 (.node o39 (.node o71 .nil .nil) (.node o103 .nil .nil)) (.node o55 (.node o87 .nil .nil) (.node (b3sub 3) .nil .nil)))) (.node o11 (.node o19 (.node o35 (.node o67 .nil .nil) (.node o99 .nil .nil)) (.node o51 (.node o83 .nil .nil) (.node o115 .nil .nil))) (.node o27 (.node o43 (.node o75 .nil .nil) (.node o107 .nil .nil)) (.node o59 (.node o91 .nil .nil) (.node (b3sub 7) .nil .nil))))) (.node (boot_o_5 P) (.node (boot_o_9 P) (.node o17 (.node o33 (.node o65 .nil .nil) (.node o97 .nil .nil)) (.node o49 (.node (o81 P) .nil .nil) (.node o113 .nil .nil))) (.node o25 (.node o41 (.node o73 .nil .nil) (.node (o105 P) .nil .nil)) (.node o57 (.node o89 .nil .nil) (.node (b3sub 5) .nil .nil)))) (.node o13 (.node o21 (.node o37 (.node o69 .nil .nil) (.node o101 .nil .nil)) (.node o53 (.node o85 .nil .nil) (.node (b3sub 1) .nil .nil))) (.node o29 (.node o45 (.node o77 .nil .nil) (.node o109 .nil .nil)) (.node o61 (.node o93 .nil .nil) .nil))))) (.node (boot_o_2 P) (.node (boot_o_4 P) (.node (boot_o_8 P) (.node o16 (.node o32 (.node o64 .nil .nil) (.node o96 .nil .nil)) (.node o48 (.node o80 .nil .nil) (.node o112 .nil .nil))) (.node o24 (.node o40 (.node (o72 P) .nil .nil) (.node o104 .nil .nil)) (.node o56 (.node o88 .nil .nil) (.node (b3sub 4) .nil .nil)))) (.node (o12 36) (.node o20 (.node o36 (.node o68 .nil .nil) (.node o100 .nil .nil)) (.node o52 (.node o84 .nil .nil) (.node (b3main 8) .nil .nil))) (.node o28 (.node o44 (.node o76 .nil .nil) (.node o108 .nil .nil)) (.node o60 (.node o92 .nil .nil) (.node (b3sub 8) .nil .nil))))) (.node (boot_o_6 P) (.node (boot_o_10 P) (.node o18 (.node o34 (.node o66 .nil .nil) (.node o98 .nil .nil)) (.node o50 (.node o82 .nil .nil) (.node o114 .nil .nil))) (.node o26 (.node o42 (.node o74 .nil .nil) (.node o106 .nil .nil)) (.node o58 (.node (o90 P) .nil .nil) (.node (b3sub 6) .nil .nil)))) (.node o14 (.node o22 (.node o38 (.node o70 .nil .nil) (.node o102 .nil .nil)) (.node o54 (.node o86 .nil .nil) (.node (b3sub 2) .nil .nil))) (.node o30 (.node o46 (.node o78 .nil .nil) (.node o110 .nil .nil)) (.node o62 (.node o94 .nil .nil) .nil))))))
noncomputable def hv10 (P : Params) : BT := (.node (boot_o_0 P) (.node (boot_o_1 P) (.node (o3 (.str "cpy313.stringprep" 348) 25 26 P) (.node (boot_o_7 P) (.node o15 (.node o31 (.node o63 .nil .nil) (.node o95 .nil .nil)) (.node o47 (.node o79 .nil .nil) (.node o111 .nil .nil))) (.node o23 (.node o39 (.node o71 .nil .nil) (.node o103 .nil .nil)) (.node o55 (.node o87 .nil .nil) (.node (b3sub 3) .nil .nil)))) (.node o11 (.node o19 (.node o35 (.node o67 .nil .nil) (.node o99 .nil .nil)) (.node o51 (.node o83 .nil .nil) (.node o115 .nil .nil))) (.node o27 (.node o43 (.node o75 .nil .nil) (.node o107 .nil .nil)) (.node o59 (.node o91 .nil .nil) (.node (b3sub 7) .nil .nil))))) (.node (boot_o_5 P) (.node (boot_o_9 P) (.node o17 (.node o33 (.node o65 .nil .nil) (.node o97 .nil .nil)) (.node o49 (.node (o81 P) .nil .nil) (.node o113 .nil .nil))) (.node o25 (.node o41 (.node o73 .nil .nil) (.node (o105 P) .nil .nil)) (.node o57 (.node o89 .nil .nil) (.node (b3sub 5) .nil .nil)))) (.node o13 (.node o21 (.node o37 (.node o69 .nil .nil) (.node o101 .nil .nil)) (.node o53 (.node o85 .nil .nil) (.node (b3sub 1) .nil .nil))) (.node o29 (.node o45 (.node o77 .nil .nil) (.node o109 .nil .nil)) (.node o61 (.node o93 .nil .nil) (.node (b3sub 9) .nil .nil)))))) (.node (boot_o_2 P) (.node (boot_o_4 P) (.node (boot_o_8 P) (.node o16 (.node o32 (.node o64 .nil .nil) (.node o96 .nil .nil)) (.node o48 (.node o80 .nil .nil) (.node o112 .nil .nil))) (.node o24 (.node o40 (.node (o72 P) .nil .nil) (.node o104 .nil .nil)) (.node o56 (.node o88 .nil .nil) (.node (b3sub 4) .nil .nil)))) (.node (o12 36) (.node o20 (.node o36 (.node o68 .nil .nil) (.node o100 .nil .nil)) (.node o52 (.node o84 .nil .nil) (.node (b3main 9) .nil .nil))) (.node o28 (.node o44 (.node o76 .nil .nil) (.node o108 .nil .nil)) (.node o60 (.node o92 .nil .nil) (.node (b3sub 8) .nil .nil))))) (.node (boot_o_6 P) (.node (boot_o_10 P) (.node o18 (.node o34 (.node o66 .nil .nil) (.node o98 .nil .nil)) (.node o50 (.node o82 .nil .nil) (.node o114 .nil .nil))) (.node o26 (.node o42 (.node o74 .nil .nil) (.node o106 .nil .nil)) (.node o58 (.node (o90 P) .nil .nil) (.node (b3sub 6) .nil .nil)))) (.node o14 (.node o22 (.node o38 (.node o70 .nil .nil) (.node o102 .nil .nil)) (.node o54 (.node o86 .nil .nil) (.node (b3sub 2) .nil .nil))) (.node o30 (.node o46 (.node o78 .nil .nil) (.node o110 .nil .nil)) (.node o62 (.node o94 .nil .nil) .nil))))))
noncomputable def hv11 (P : Params) : BT := (.node (boot_o_0 P) (.node (boot_o_1 P) (.node (o3 (.str "cpy313.stringprep" 348) 25 26 P) (.node (boot_o_7 P) (.node o15 (.node o31 (.node o63 .nil .nil) (.node o95 .nil .nil)) (.node o47 (.node o79 .nil .nil) (.node o111 .nil .nil))) (.node o23 (.node o39 (.node o71 .nil .nil) (.node o103 .nil .nil)) (.node o55 (.node o87 .nil .nil) (.node (b3sub 3) .nil .nil)))) (.node o11 (.node o19 (.node o35 (.node o67 .nil .nil) (.node o99 .nil .nil)) (.node o51 (.node o83 .nil .nil) (.node o115 .nil .nil))) (.node o27 (.node o43 (.node o75 .nil .nil) (.node o107 .nil .nil)) (.node o59 (.node o91 .nil .nil) (.node (b3sub 7) .nil .nil))))) (.node (boot_o_5 P) (.node (boot_o_9 P) (.node o17 (.node o33 (.node o65 .nil .nil) (.node o97 .nil .nil)) (.node o49 (.node (o81 P) .nil .nil) (.node o113 .nil .nil))) (.node o25 (.node o41 (.node o73 .nil .nil) (.node (o105 P) .nil .nil)) (.node o57 (.node o89 .nil .nil) (.node (b3sub 5) .nil .nil)))) (.node o13 (.node o21 (.node o37 (.node o69 .nil .nil) (.node o101 .nil .nil)) (.node o53 (.node o85 .nil .nil) (.node (b3sub 1) .nil .nil))) (.node o29 (.node o45 (.node o77 .nil .nil) (.node o109 .nil .nil)) (.node o61 (.node o93 .nil .nil) (.node (b3sub 9) .nil .nil)))))) (.node (boot_o_2 P) (.node (boot_o_4 P) (.node (boot_o_8 P) (.node o16 (.node o32 (.node o64 .nil .nil) (.node o96 .nil .nil)) (.node o48 (.node o80 .nil .nil) (.node o112 .nil .nil))) (.node o24 (.node o40 (.node (o72 P) .nil .nil) (.node o104 .nil .nil)) (.node o56 (.node o88 .nil .nil) (.node (b3sub 4) .nil .nil)))) (.node (o12 36) (.node o20 (.node o36 (.node o68 .nil .nil) (.node o100 .nil .nil)) (.node o52 (.node o84 .nil .nil) (.node (b3main 10) .nil .nil))) (.node o28 (.node o44 (.node o76 .nil .nil) (.node o108 .nil .nil)) (.node o60 (.node o92 .nil .nil) (.node (b3sub 8) .nil .nil))))) (.node (boot_o_6 P) (.node (boot_o_10 P) (.node o18 (.node o34 (.node o66 .nil .nil) (.node o98 .nil .nil)) (.node o50 (.node o82 .nil .nil) (.node o114 .nil .nil))) (.node o26 (.node o42 (.node o74 .nil .nil) (.node o106 .nil .nil)) (.node o58 (.node (o90 P) .nil .nil) (.node (b3sub 6) .nil .nil)))) (.node o14 (.node o22 (.node o38 (.node o70 .nil .nil) (.node o102 .nil .nil)) (.node o54 (.node o86 .nil .nil) (.node (b3sub 2) .nil .nil))) (.node o30 (.node o46 (.node o78 .nil .nil) (.node o110 .nil .nil)) (.node o62 (.node o94 .nil .nil) (.node (b3sub 10) .nil .nil)))))))
noncomputable def hv12 (P : Params) : BT := (.node (boot_o_0 P) (.node (boot_o_1 P) (.node (o3 (.str "cpy313.stringprep" 348) 25 26 P) (.node (boot_o_7 P) (.node o15 (.node o31 (.node o63 (.node (b3sub 11) .nil .nil) .nil) (.node o95 .nil .nil)) (.node o47 (.node o79 .nil .nil) (.node o111 .nil .nil))) (.node o23 (.node o39 (.node o71 .nil .nil) (.node o103 .nil .nil)) (.node o55 (.node o87 .nil .nil) (.node (b3sub 3) .nil .nil)))) (.node o11 (.node o19 (.node o35 (.node o67 .nil .nil) (.node o99 .nil .nil)) (.node o51 (.node o83 .nil .nil) (.node o115 .nil .nil))) (.node o27 (.node o43 (.node o75 .nil .nil) (.node o107 .nil .nil)) (.node o59 (.node o91 .nil .nil) (.node (b3sub 7) .nil .nil))))) (.node (boot_o_5 P) (.node (boot_o_9 P) (.node o17 (.node o33 (.node o65 .nil .nil) (.node o97 .nil .nil)) (.node o49 (.node (o81 P) .nil .nil) (.node o113 .nil .nil))) (.node o25 (.node o41 (.node o73 .nil .nil) (.node (o105 P) .nil .nil)) (.node o57 (.node o89 .nil .nil) (.node (b3sub 5) .nil .nil)))) (.node o13 (.node o21 (.node o37 (.node o69 .nil .nil) (.node o101 .nil .nil)) (.node o53 (.node o85 .nil .nil) (.node (b3sub 1) .nil .nil))) (.node o29 (.node o45 (.node o77 .nil .nil) (.node o109 .nil .nil)) (.node o61 (.node o93 .nil .nil) (.node (b3sub 9) .nil .nil)))))) (.node (boot_o_2 P) (.node (boot_o_4 P) (.node (boot_o_8 P) (.node o16 (.node o32 (.node o64 .nil .nil) (.node o96 .nil .nil)) (.node o48 (.node o80 .nil .nil) (.node o112 .nil .nil))) (.node o24 (.node o40 (.node (o72 P) .nil .nil) (.node o104 .nil .nil)) (.node o56 (.node o88 .nil .nil) (.node (b3sub 4) .nil .nil)))) (.node (o12 36) (.node o20 (.node o36 (.node o68 .nil .nil) (.node o100 .nil .nil)) (.node o52 (.node o84 .nil .nil) (.node (b3main 11) .nil .nil))) (.node o28 (.node o44 (.node o76 .nil .nil) (.node o108 .nil .nil)) (.node o60 (.node o92 .nil .nil) (.node (b3sub 8) .nil .nil))))) (.node (boot_o_6 P) (.node (boot_o_10 P) (.node o18 (.node o34 (.node o66 .nil .nil) (.node o98 .nil .nil)) (.node o50 (.node o82 .nil .nil) (.node o114 .nil .nil))) (.node o26 (.node o42 (.node o74 .nil .nil) (.node o106 .nil .nil)) (.node o58 (.node (o90 P) .nil .nil) (.node (b3sub 6) .nil .nil)))) (.node o14 (.node o22 (.node o38 (.node o70 .nil .nil) (.node o102 .nil .nil)) (.node o54 (.node o86 .nil .nil) (.node (b3sub 2) .nil .nil))) (.node o30 (.node o46 (.node o78 .nil .nil) (.node o110 .nil .nil)) (.node o62 (.node o94 .nil .nil) (.node (b3sub 10) .nil .nil)))))))
noncomputable def hv13 (P : Params) : BT := (.node (boot_o_0 P) (.node (boot_o_1 P) (.node (o3 (.str "cpy313.stringprep" 348) 25 26 P) (.node (boot_o_7 P) (.node o15 (.node o31 (.node o63 (.node (b3sub 11) .nil .nil) .nil) (.node o95 .nil .nil)) (.node o47 (.node o79 .nil .nil) (.node o111 .nil .nil))) (.node o23 (.node o39 (.node o71 .nil .nil) (.node o103 .nil .nil)) (.node o55 (.node o87 .nil .nil) (.node (b3sub 3) .nil .nil)))) (.node o11 (.node o19 (.node o35 (.node o67 .nil .nil) (.node o99 .nil .nil)) (.node o51 (.node o83 .nil .nil) (.node o115 .nil .nil))) (.node o27 (.node o43 (.node o75 .nil .nil) (.node o107 .nil .nil)) (.node o59 (.node o91 .nil .nil) (.node (b3sub 7) .nil .nil))))) (.node (boot_o_5 P) (.node (boot_o_9 P) (.node o17 (.node o33 (.node o65 .nil .nil) (.node o97 .nil .nil)) (.node o49 (.node (o81 P) .nil .nil) (.node o113 .nil .nil))) (.node o25 (.node o41 (.node o73 .nil .nil) (.node (o105 P) .nil .nil)) (.node o57 (.node o89 .nil .nil) (.node (b3sub 5) .nil .nil)))) (.node o13 (.node o21 (.node o37 (.node o69 .nil .nil) (.node o101 .nil .nil)) (.node o53 (.node o85 .nil .nil) (.node (b3sub 1) .nil .nil))) (.node o29 (.node o45 (.node o77 .nil .nil) (.node o109 .nil .nil)) (.node o61 (.node o93 .nil .nil) (.node (b3sub 9) .nil .nil)))))) (.node (boot_o_2 P) (.node (boot_o_4 P) (.node (boot_o_8 P) (.node o16 (.node o32 (.node o64 (.node (b3sub 12) .nil .nil) .nil) (.node o96 .nil .nil)) (.node o48 (.node o80 .nil .nil) (.node o112 .nil .nil))) (.node o24 (.node o40 (.node (o72 P) .nil .nil) (.node o104 .nil .nil)) (.node o56 (.node o88 .nil .nil) (.node (b3sub 4) .nil .nil)))) (.node (o12 36) (.node o20 (.node o36 (.node o68 .nil .nil) (.node o100 .nil .nil)) (.node o52 (.node o84 .nil .nil) (.node (b3main 12) .nil .nil))) (.node o28 (.node o44 (.node o76 .nil .nil) (.node o108 .nil .nil)) (.node o60 (.node o92 .nil .nil) (.node (b3sub 8) .nil .nil))))) (.node (boot_o_6 P) (.node (boot_o_10 P) (.node o18 (.node o34 (.node o66 .nil .nil) (.node o98 .nil .nil)) (.node o50 (.node o82 .nil .nil) (.node o114 .nil .nil))) (.node o26 (.node o42 (.node o74 .nil .nil) (.node o106 .nil .nil)) (.node o58 (.node (o90 P) .nil .nil) (.node (b3sub 6) .nil .nil)))) (.node o14 (.node o22 (.node o38 (.node o70 .nil .nil) (.node o102 .nil .nil)) (.node o54 (.node o86 .nil .nil) (.node (b3sub 2) .nil .nil))) (.node o30 (.node o46 (.node o78 .nil .nil) (.node o110 .nil .nil)) (.node o62 (.node o94 .nil .nil) (.node (b3sub 10) .nil .nil)))))))
noncomputable def hv14 (P : Params) : BT := (.node (boot_o_0 P) (.node (boot_o_1 P) (.node (o3 (.str "cpy313.stringprep" 348) 25 26 P) (.node (boot_o_7 P) (.node o15 (.node o31 (.node o63 (.node (b3sub 11) .nil .nil) .nil) (.node o95 .nil .nil)) (.node o47 (.node o79 .nil .nil) (.node o111 .nil .nil))) (.node o23 (.node o39 (.node o71 .nil .nil) (.node o103 .nil .nil)) (.node o55 (.node o87 .nil .nil) (.node (b3sub 3) .nil .nil)))) (.node o11 (.node o19 (.node o35 (.node o67 .nil .nil) (.node o99 .nil .nil)) (.node o51 (.node o83 .nil .nil) (.node o115 .nil .nil))) (.node o27 (.node o43 (.node o75 .nil .nil) (.node o107 .nil .nil)) (.node o59 (.node o91 .nil .nil) (.node (b3sub 7) .nil .nil))))) (.node (boot_o_5 P) (.node (boot_o_9 P) (.node o17 (.node o33 (.node o65 (.node (b3sub 13) .nil .nil) .nil) (.node o97 .nil .nil)) (.node o49 (.node (o81 P) .nil .nil) (.node o113 .nil .nil))) (.node o25 (.node o41 (.node o73 .nil .nil) (.node (o105 P) .nil .nil)) (.node o57 (.node o89 .nil .nil) (.node (b3sub 5) .nil .nil)))) (.node o13 (.node o21 (.node o37 (.node o69 .nil .nil) (.node o101 .nil .nil)) (.node o53 (.node o85 .nil .nil) (.node (b3sub 1) .nil .nil))) (.node o29 (.node o45 (.node o77 .nil .nil) (.node o109 .nil .nil)) (.node o61 (.node o93 .nil .nil) (.node (b3sub 9) .nil .nil)))))) (.node (boot_o_2 P) (.node (boot_o_4 P) (.node (boot_o_8 P) (.node o16 (.node o32 (.node o64 (.node (b3sub 12) .nil .nil) .nil) (.node o96 .nil .nil)) (.node o48 (.node o80 .nil .nil) (.node o112 .nil .nil))) (.node o24 (.node o40 (.node (o72 P) .nil .nil) (.node o104 .nil .nil)) (.node o56 (.node o88 .nil .nil) (.node (b3sub 4) .nil .nil)))) (.node (o12 36) (.node o20 (.node o36 (.node o68 .nil .nil) (.node o100 .nil .nil)) (.node o52 (.node o84 .nil .nil) (.node (b3main 13) .nil .nil))) (.node o28 (.node o44 (.node o76 .nil .nil) (.node o108 .nil .nil)) (.node o60 (.node o92 .nil .nil) (.node (b3sub 8) .nil .nil))))) (.node (boot_o_6 P) (.node (boot_o_10 P) (.node o18 (.node o34 (.node o66 .nil .nil) (.node o98 .nil .nil)) (.node o50 (.node o82 .nil .nil) (.node o114 .nil .nil))) (.node o26 (.node o42 (.node o74 .nil .nil) (.node o106 .nil .nil)) (.node o58 (.node (o90 P) .nil .nil) (.node (b3sub 6) .nil .nil)))) (.node o14 (.node o22 (.node o38 (.node o70 .nil .nil) (.node o102 .nil .nil)) (.node o54 (.node o86 .nil .nil) (.node (b3sub 2) .nil .nil))) (.node o30 (.node o46 (.node o78 .nil .nil) (.node o110 .nil .nil)) (.node o62 (.node o94 .nil .nil) (.node (b3sub 10) .nil .nil)))))))
noncomputable def hv15 (P : Params) : BT := (.node (boot_o_0 P) (.node (boot_o_1 P) (.node (o3 (.str "cpy313.stringprep" 348) 25 26 P) (.node (boot_o_7 P) (.node o15 (.node o31 (.node o63 (.node (b3sub 11) .nil .nil) .nil) (.node o95 .nil .nil)) (.node o47 (.node o79 .nil .nil) (.node o111 .nil .nil))) (.node o23 (.node o39 (.node o71 .nil .nil) (.node o103 .nil .nil)) (.node o55 (.node o87 .nil .nil) (.node (b3sub 3) .nil .nil)))) (.node o11 (.node o19 (.node o35 (.node o67 .nil .nil) (.node o99 .nil .nil)) (.node o51 (.node o83 .nil .nil) (.node o115 .nil .nil))) (.node o27 (.node o43 (.node o75 .nil .nil) (.node o107 .nil .nil)) (.node o59 (.node o91 .nil .nil) (.node (b3sub 7) .nil .nil))))) (.node (boot_o_5 P) (.node (boot_o_9 P) (.node o17 (.node o33 (.node o65 (.node (b3sub 13) .nil .nil) .nil) (.node o97 .nil .nil)) (.node o49 (.node (o81 P) .nil .nil) (.node o113 .nil .nil))) (.node o25 (.node o41 (.node o73 .nil .nil) (.node (o105 P) .nil .nil)) (.node o57 (.node o89 .nil .nil) (.node (b3sub 5) .nil .nil)))) (.node o13 (.node o21 (.node o37 (.node o69 .nil .nil) (.node o101 .nil .nil)) (.node o53 (.node o85 .nil .nil) (.node (b3sub 1) .nil .nil))) (.node o29 (.node o45 (.node o77 .nil .nil) (.node o109 .nil .nil)) (.node o61 (.node o93 .nil .nil) (.node (b3sub 9) .nil .nil)))))) (.node (boot_o_2 P) (.node (boot_o_4 P) (.node (boot_o_8 P) (.node o16 (.node o32 (.node o64 (.node (b3sub 12) .nil .nil) .nil) (.node o96 .nil .nil)) (.node o48 (.node o80 .nil .nil) (.node o112 .nil .nil))) (.node o24 (.node o40 (.node (o72 P) .nil .nil) (.node o104 .nil .nil)) (.node o56 (.node o88 .nil .nil) (.node (b3sub 4) .nil .nil)))) (.node (o12 36) (.node o20 (.node o36 (.node o68 .nil .nil) (.node o100 .nil .nil)) (.node o52 (.node o84 .nil .nil) (.node (b3main 14) .nil .nil))) (.node o28 (.node o44 (.node o76 .nil .nil) (.node o108 .nil .nil)) (.node o60 (.node o92 .nil .nil) (.node (b3sub 8) .nil .nil))))) (.node (boot_o_6 P) (.node (boot_o_10 P) (.node o18 (.node o34 (.node o66 (.node (b3sub 14) .nil .nil) .nil) (.node o98 .nil .nil)) (.node o50 (.node o82 .nil .nil) (.node o114 .nil .nil))) (.node o26 (.node o42 (.node o74 .nil .nil) (.node o106 .nil .nil)) (.node o58 (.node (o90 P) .nil .nil) (.node (b3sub 6) .nil .nil)))) (.node o14 (.node o22 (.node o38 (.node o70 .nil .nil) (.node o102 .nil .nil)) (.node o54 (.node o86 .nil .nil) (.node (b3sub 2) .nil .nil))) (.node o30 (.node o46 (.node o78 .nil .nil) (.node o110 .nil .nil)) (.node o62 (.node o94 .nil .nil) (.node (b3sub 10) .nil .nil)))))))
noncomputable def hv16 (P : Params) : BT := (.node (boot_o_0 P) (.node (boot_o_1 P) (.node (o3 (.str "cpy313.stringprep" 348) 25 26 P) (.node (boot_o_7 P) (.node o15 (.node o31 (.node o63 (.node (b3sub 11) .nil .nil) .nil) (.node o95 .nil .nil)) (.node o47 (.node o79 .nil .nil) (.node o111 .nil .nil))) (.node o23 (.node o39 (.node o71 .nil .nil) (.node o103 .nil .nil)) (.node o55 (.node o87 .nil .nil) (.node (b3sub 3) .nil .nil)))) (.node o11 (.node o19 (.node o35 (.node o67 (.node (b3sub 15) .nil .nil) .nil) (.node o99 .nil .nil)) (.node o51 (.node o83 .nil .nil) (.node o115 .nil .nil))) (.node o27 (.node o43 (.node o75 .nil .nil) (.node o107 .nil .nil)) (.node o59 (.node o91 .nil .nil) (.node (b3sub 7) .nil .nil))))) (.node (boot_o_5 P) (.node (boot_o_9 P) (.node o17 (.node o33 (.node o65 (.node (b3sub 13) .nil .nil) .nil) (.node o97 .nil .nil)) (.node o49 (.node (o81 P) .nil .nil) (.node o113 .nil .nil))) (.node o25 (.node o41 (.node o73 .nil .nil) (.node (o105 P) .nil .nil)) (.node o57 (.node o89 .nil .nil) (.node (b3sub 5) .nil .nil)))) (.node o13 (.node o21 (.node o37 (.node o69 .nil .nil) (.node o101 .nil .nil)) (.node o53 (.node o85 .nil .nil) (.node (b3sub 1) .nil .nil))) (.node o29 (.node o45 (.node o77 .nil .nil) (.node o109 .nil .nil)) (.node o61 (.node o93 .nil .nil) (.node (b3sub 9) .nil .nil)))))) (.node (boot_o_2 P) (.node (boot_o_4 P) (.node (boot_o_8 P) (.node o16 (.node o32 (.node o64 (.node (b3sub 12) .nil .nil) .nil) (.node o96 .nil .nil)) (.node o48 (.node o80 .nil .nil) (.node o112 .nil .nil))) (.node o24 (.node o40 (.node (o72 P) .nil .nil) (.node o104 .nil .nil)) (.node o56 (.node o88 .nil .nil) (.node (b3sub 4) .nil .nil)))) (.node (o12 36) (.node o20 (.node o36 (.node o68 .nil .nil) (.node o100 .nil .nil)) (.node o52 (.node o84 .nil .nil) (.node (b3main 15) .nil .nil))) (.node o28 (.node o44 (.node o76 .nil .nil) (.node o108 .nil .nil)) (.node o60 (.node o92 .nil .nil) (.node (b3sub 8) .nil .nil))))) (.node (boot_o_6 P) (.node (boot_o_10 P) (.node o18 (.node o34 (.node o66 (.node (b3sub 14) .nil .nil) .nil) (.node o98 .nil .nil)) (.node o50 (.node o82 .nil .nil) (.node o114 .nil .nil))) (.node o26 (.node o42 (.node o74 .nil .nil) (.node o106 .nil .nil)) (.node o58 (.node (o90 P) .nil .nil) (.node (b3sub 6) .nil .nil)))) (.node o14 (.node o22 (.node o38 (.node o70 .nil .nil) (.node o102 .nil .nil)) (.node o54 (.node o86 .nil .nil) (.node (b3sub 2) .nil .nil))) (.node o30 (.node o46 (.node o78 .nil .nil) (.node o110 .nil .nil)) (.node o62 (.node o94 .nil .nil) (.node (b3sub 10) .nil .nil)))))))
noncomputable def hv17 (P : Params) : BT := (.node (boot_o_0 P) (.node (boot_o_1 P) (.node (o3 (.str "cpy313.stringprep" 348) 25 26 P) (.node (boot_o_7 P) (.node o15 (.node o31 (.node o63 (.node (b3sub 11) .nil .nil) .nil) (.node o95 .nil .nil)) (.node o47 (.node o79 .nil .nil) (.node o111 .nil .nil))) (.node o23 (.node o39 (.node o71 .nil .nil) (.node o103 .nil .nil)) (.node o55 (.node o87 .nil .nil) (.node (b3sub 3) .nil .nil)))) (.node o11 (.node o19 (.node o35 (.node o67 (.node (b3sub 15) .nil .nil) .nil) (.node o99 .nil .nil)) (.node o51 (.node o83 .nil .nil) (.node o115 .nil .nil))) (.node o27 (.node o43 (.node o75 .nil .nil) (.node o107 .nil .nil)) (.node o59 (.node o91 .nil .nil) (.node (b3sub 7) .nil .nil))))) (.node (boot_o_5 P) (.node (boot_o_9 P) (.node o17 (.node o33 (.node o65 (.node (b3sub 13) .nil .nil) .nil) (.node o97 .nil .nil)) (.node o49 (.node (o81 P) .nil .nil) (.node o113 .nil .nil))) (.node o25 (.node o41 (.node o73 .nil .nil) (.node (o105 P) .nil .nil)) (.node o57 (.node o89 .nil .nil) (.node (b3sub 5) .nil .nil)))) (.node o13 (.node o21 (.node o37 (.node o69 .nil .nil) (.node o101 .nil .nil)) (.node o53 (.node o85 .nil .nil) (.node (b3sub 1) .nil .nil))) (.node o29 (.node o45 (.node o77 .nil .nil) (.node o109 .nil .nil)) (.node o61 (.node o93 .nil .nil) (.node (b3sub 9) .nil .nil)))))) (.node (boot_o_2 P) (.node (boot_o_4 P) (.node (boot_o_8 P) (.node o16 (.node o32 (.node o64 (.node (b3sub 12) .nil .nil) .nil) (.node o96 .nil .nil)) (.node o48 (.node o80 .nil .nil) (.node o112 .nil .nil))) (.node o24 (.node o40 (.node (o72 P) .nil .nil) (.node o104 .nil .nil)) (.node o56 (.node o88 .nil .nil) (.node (b3sub 4) .nil .nil)))) (.node (o12 36) (.node o20 (.node o36 (.node o68 (.node (b3sub 16) .nil .nil) .nil) (.node o100 .nil .nil)) (.node o52 (.node o84 .nil .nil) (.node (b3main 16) .nil .nil))) (.node o28 (.node o44 (.node o76 .nil .nil) (.node o108 .nil .nil)) (.node o60 (.node o92 .nil .nil) (.node (b3sub 8) .nil .nil))))) (.node (boot_o_6 P) (.node (boot_o_10 P) (.node o18 (.node o34 (.node o66 (.node (b3sub 14) .nil .nil) .nil) (.node o98 .nil .nil)) (.node o50 (.node o82 .nil .nil) (.node o114 .nil .nil))) (.node o26 (.node o42 (.node o74 .nil .nil) (.node o106 .nil .nil)) (.node o58 (.node (o90 P) .nil .nil) (.node (b3sub 6) .nil .nil)))) (.node o14 (.node o22 (.node o38 (.node o70 .nil .nil) (.node o102 .nil .nil)) (.node o54 (.node o86 .nil .nil) (.node (b3sub 2) .nil .nil))) (.node o30 (.node o46 (.node o78 .nil .nil) (.node o110 .nil .nil)) (.node o62 (.node o94 .nil .nil) (.node (b3sub 10) .nil .nil)))))))
noncomputable def hv18 (P : Params) : BT := (.node (boot_o_0 P) (.node (boot_o_1 P) (.node (o3 (.str "cpy313.stringprep" 348) 25 26 P) (.node (boot_o_7 P) (.node o15 (.node o31 (.node o63 (.node (b3sub 11) .nil .nil) .nil) (.node o95 .nil .nil)) (.node o47 (.node o79 .nil .nil) (.node o111 .nil .nil))) (.node o23 (.node o39 (.node o71 .nil .nil) (.node o103 .nil .nil)) (.node o55 (.node o87 .nil .nil) (.node (b3sub 3) .nil .nil)))) (.node o11 (.node o19 (.node o35 (.node o67 (.node (b3sub 15) .nil .nil) .nil) (.node o99 .nil .nil)) (.node o51 (.node o83 .nil .nil) (.node o115 .nil .nil))) (.node o27 (.node o43 (.node o75 .nil .nil) (.node o107 .nil .nil)) (.node o59 (.node o91 .nil .nil) (.node (b3sub 7) .nil .nil))))) (.node (boot_o_5 P) (.node (boot_o_9 P) (.node o17 (.node o33 (.node o65 (.node (b3sub 13) .nil .nil) .nil) (.node o97 .nil .nil)) (.node o49 (.node (o81 P) .nil .nil) (.node o113 .nil .nil))) (.node o25 (.node o41 (.node o73 .nil .nil) (.node (o105 P) .nil .nil)) (.node o57 (.node o89 .nil .nil) (.node (b3sub 5) .nil .nil)))) (.node o13 (.node o21 (.node o37 (.node o69 (.node (b3sub 17) .nil .nil) .nil) (.node o101 .nil .nil)) (.node o53 (.node o85 .nil .nil) (.node (b3sub 1) .nil .nil))) (.node o29 (.node o45 (.node o77 .nil .nil) (.node o109 .nil .nil)) (.node o61 (.node o93 .nil .nil) (.node (b3sub 9) .nil .nil)))))) (.node (boot_o_2 P) (.node (boot_o_4 P) (.node (boot_o_8 P) (.node o16 (.node o32 (.node o64 (.node (b3sub 12) .nil .nil) .nil) (.node o96 .nil .nil)) (.node o48 (.node o80 .nil .nil) (.node o112 .nil .nil))) (.node o24 (.node o40 (.node (o72 P) .nil .nil) (.node o104 .nil .nil)) (.node o56 (.node o88 .nil .nil) (.node (b3sub 4) .nil .nil)))) (.node (o12 36) (.node o20 (.node o36 (.node o68 (.node (b3sub 16) .nil .nil) .nil) (.node o100 .nil .nil)) (.node o52 (.node o84 .nil .nil) (.node (b3main 17) .nil .nil))) (.node o28 (.node o44 (.node o76 .nil .nil) (.node o108 .nil .nil)) (.node o60 (.node o92 .nil .nil) (.node (b3sub 8) .nil .nil))))) (.node (boot_o_6 P) (.node (boot_o_10 P) (.node o18 (.node o34 (.node o66 (.node (b3sub 14) .nil .nil) .nil) (.node o98 .nil .nil)) (.node o50 (.node o82 .nil .nil) (.node o114 .nil .nil))) (.node o26 (.node o42 (.node o74 .nil .nil) (.node o106 .nil .nil)) (.node o58 (.node (o90 P) .nil .nil) (.node (b3sub 6) .nil .nil)))) (.node o14 (.node o22 (.node o38 (.node o70 .nil .nil) (.node o102 .nil .nil)) (.node o54 (.node o86 .nil .nil) (.node (b3sub 2) .nil .nil))) (.node o30 (.node o46 (.node o78 .nil .nil) (.node o110 .nil .nil)) (.node o62 (.node o94 .nil .nil) (.node (b3sub 10) .nil .nil)))))))
noncomputable def hv19 (P : Params) : BT := (.node (boot_o_0 P) (.node (boot_o_1 P) (.node (o3 (.str "cpy313.stringprep" 348) 25 26 P) (.node (boot_o_7 P) (.node o15 (.node o31 (.node o63 (.node (b3sub 11) .nil .nil) .nil) (.node o95 .nil .nil)) (.node o47 (.node o79 .nil .nil) (.node o111 .nil .nil))) (.node o23 (.node o39 (.node o71 .nil .nil) (.node o103 .nil .nil)) (.node o55 (.node o87 .nil .nil) (.node (b3sub 3) .nil .nil)))) (.node o11 (.node o19 (.node o35 (.node o67 (.node (b3sub 15) .nil .nil) .nil) (.node o99 .nil .nil)) (.node o51 (.node o83 .nil .nil) (.node o115 .nil .nil))) (.node o27 (.node o43 (.node o75 .nil .nil) (.node o107 .nil .nil)) (.node o59 (.node o91 .nil .nil) (.node (b3sub 7) .nil .nil))))) (.node (boot_o_5 P) (.node (boot_o_9 P) (.node o17 (.node o33 (.node o65 (.node (b3sub 13) .nil .nil) .nil) (.node o97 .nil .nil)) (.node o49 (.node (o81 P) .nil .nil) (.node o113 .nil .nil))) (.node o25 (.node o41 (.node o73 .nil .nil) (.node (o105 P) .nil .nil)) (.node o57 (.node o89 .nil .nil) (.node (b3sub 5) .nil .nil)))) (.node o13 (.node o21 (.node o37 (.node o69 (.node (b3sub 17) .nil .nil) .nil) (.node o101 .nil .nil)) (.node o53 (.node o85 .nil .nil) (.node (b3sub 1) .nil .nil))) (.node o29 (.node o45 (.node o77 .nil .nil) (.node o109 .nil .nil)) (.node o61 (.node o93 .nil .nil) (.node (b3sub 9) .nil .nil)))))) (.node (boot_o_2 P) (.node (boot_o_4 P) (.node (boot_o_8 P) (.node o16 (.node o32 (.node o64 (.node (b3sub 12) .nil .nil) .nil) (.node o96 .nil .nil)) (.node o48 (.node o80 .nil .nil) (.node o112 .nil .nil))) (.node o24 (.node o40 (.node (o72 P) .nil .nil) (.node o104 .nil .nil)) (.node o56 (.node o88 .nil .nil) (.node (b3sub 4) .nil .nil)))) (.node (o12 36) (.node o20 (.node o36 (.node o68 (.node (b3sub 16) .nil .nil) .nil) (.node o100 .nil .nil)) (.node o52 (.node o84 .nil .nil) (.node (b3main 18) .nil .nil))) (.node o28 (.node o44 (.node o76 .nil .nil) (.node o108 .nil .nil)) (.node o60 (.node o92 .nil .nil) (.node (b3sub 8) .nil .nil))))) (.node (boot_o_6 P) (.node (boot_o_10 P) (.node o18 (.node o34 (.node o66 (.node (b3sub 14) .nil .nil) .nil) (.node o98 .nil .nil)) (.node o50 (.node o82 .nil .nil) (.node o114 .nil .nil))) (.node o26 (.node o42 (.node o74 .nil .nil) (.node o106 .nil .nil)) (.node o58 (.node (o90 P) .nil .nil) (.node (b3sub 6) .nil .nil)))) (.node o14 (.node o22 (.node o38 (.node o70 (.node (b3sub 18) .nil .nil) .nil) (.node o102 .nil .nil)) (.node o54 (.node o86 .nil .nil) (.node (b3sub 2) .nil .nil))) (.node o30 (.node o46 (.node o78 .nil .nil) (.node o110 .nil .nil)) (.node o62 (.node o94 .nil .nil) (.node (b3sub 10) .nil .nil)))))))
noncomputable def hv20 (P : Params) : BT := (.node (boot_o_0 P) (.node (boot_o_1 P) (.node (o3 (.str "cpy313.stringprep" 348) 25 26 P) (.node (boot_o_7 P) (.node o15 (.node o31 (.node o63 (.node (b3sub 11) .nil .nil) .nil) (.node o95 .nil .nil)) (.node o47 (.node o79 .nil .nil) (.node o111 .nil .nil))) (.node o23 (.node o39 (.node o71 (.node (b3sub 19) .nil .nil) .nil) (.node o103 .nil .nil)) (.node o55 (.node o87 .nil .nil) (.node (b3sub 3) .nil .nil)))) (.node o11 (.node o19 (.node o35 (.node o67 (.node (b3sub 15) .nil .nil) .nil) (.node o99 .nil .nil)) (.node o51 (.node o83 .nil .nil) (.node o115 .nil .nil))) (.node o27 (.node o43 (.node o75 .nil .nil) (.node o107 .nil .nil)) (.node o59 (.node o91 .nil .nil) (.node (b3sub 7) .nil .nil))))) (.node (boot_o_5 P) (.node (boot_o_9 P) (.node o17 (.node o33 (.node o65 (.node (b3sub 13) .nil .nil) .nil) (.node o97 .nil .nil)) (.node o49 (.node (o81 P) .nil .nil) (.node o113 .nil .nil))) (.node o25 (.node o41 (.node o73 .nil .nil) (.node (o105 P) .nil .nil)) (.node o57 (.node o89 .nil .nil) (.node (b3sub 5) .nil .nil)))) (.node o13 (.node o21 (.node o37 (.node o69 (.node (b3sub 17) .nil .nil) .nil) (.node o101 .nil .nil)) (.node o53 (.node o85 .nil .nil) (.node (b3sub 1) .nil .nil))) (.node o29 (.node o45 (.node o77 .nil .nil) (.node o109 .nil .nil)) (.node o61 (.node o93 .nil .nil) (.node (b3sub 9) .nil .nil)))))) (.node (boot_o_2 P) (.node (boot_o_4 P) (.node (boot_o_8 P) (.node o16 (.node o32 (.node o64 (.node (b3sub 12) .nil .nil) .nil) (.node o96 .nil .nil)) (.node o48 (.node o80 .nil .nil) (.node o112 .nil .nil))) (.node o24 (.node o40 (.node (o72 P) .nil .nil) (.node o104 .nil .nil)) (.node o56 (.node o88 .nil .nil) (.node (b3sub 4) .nil .nil)))) (.node (o12 36) (.node o20 (.node o36 (.node o68 (.node (b3sub 16) .nil .nil) .nil) (.node o100 .nil .nil)) (.node o52 (.node o84 .nil .nil) (.node (b3main 19) .nil .nil))) (.node o28 (.node o44 (.node o76 .nil .nil) (.node o108 .nil .nil)) (.node o60 (.node o92 .nil .nil) (.node (b3sub 8) .nil .nil))))) (.node (boot_o_6 P) (.node (boot_o_10 P) (.node o18 (.node o34 (.node o66 (.node (b3sub 14) .nil .nil) .nil) (.node o98 .nil .nil)) (.node o50 (.node o82 .nil .nil) (.node o114 .nil .nil))) (.node o26 (.node o42 (.node o74 .nil .nil) (.node o106 .nil .nil)) (.node o58 (.node (o90 P) .nil .nil) (.node (b3sub 6) .nil .nil)))) (.node o14 (.node o22 (.node o38 (.node o70 (.node (b3sub 18) .nil .nil) .nil) (.node o102 .nil .nil)) (.node o54 (.node o86 .nil .nil) (.node (b3sub 2) .nil .nil))) (.node o30 (.node o46 (.node o78 .nil .nil) (.node o110 .nil .nil)) (.node o62 (.node o94 .nil .nil) (.node (b3sub 10) .nil .nil)))))))
noncomputable def hv21 (P : Params) : BT := (.node (boot_o_0 P) (.node (boot_o_1 P) (.node (o3 (.str "cpy313.stringprep" 348) 25 26 P) (.node (boot_o_7 P) (.node o15 (.node o31 (.node o63 (.node (b3sub 11) .nil .nil) .nil) (.node o95 .nil .nil)) (.node o47 (.node o79 .nil .nil) (.node o111 .nil .nil))) (.node o23 (.node o39 (.node o71 (.node (b3sub 19) .nil .nil) .nil) (.node o103 .nil .nil)) (.node o55 (.node o87 .nil .nil) (.node (b3sub 3) .nil .nil)))) (.node o11 (.node o19 (.node o35 (.node o67 (.node (b3sub 15) .nil .nil) .nil) (.node o99 .nil .nil)) (.node o51 (.node o83 .nil .nil) (.node o115 .nil .nil))) (.node o27 (.node o43 (.node o75 .nil .nil) (.node o107 .nil .nil)) (.node o59 (.node o91 .nil .nil) (.node (b3sub 7) .nil .nil))))) (.node (boot_o_5 P) (.node (boot_o_9 P) (.node o17 (.node o33 (.node o65 (.node (b3sub 13) .nil .nil) .nil) (.node o97 .nil .nil)) (.node o49 (.node (o81 P) .nil .nil) (.node o113 .nil .nil))) (.node o25 (.node o41 (.node o73 .nil .nil) (.node (o105 P) .nil .nil)) (.node o57 (.node o89 .nil .nil) (.node (b3sub 5) .nil .nil)))) (.node o13 (.node o21 (.node o37 (.node o69 (.node (b3sub 17) .nil .nil) .nil) (.node o101 .nil .nil)) (.node o53 (.node o85 .nil .nil) (.node (b3sub 1) .nil .nil))) (.node o29 (.node o45 (.node o77 .nil .nil) (.node o109 .nil .nil)) (.node o61 (.node o93 .nil .nil) (.node (b3sub 9) .nil .nil)))))) (.node (boot_o_2 P) (.node (boot_o_4 P) (.node (boot_o_8 P) (.node o16 (.node o32 (.node o64 (.node (b3sub 12) .nil .nil) .nil) (.node o96 .nil .nil)) (.node o48 (.node o80 .nil .nil) (.node o112 .nil .nil))) (.node o24 (.node o40 (.node (o72 P) (.node (b3sub 20) .nil .nil) .nil) (.node o104 .nil .nil)) (.node o56 (.node o88 .nil .nil) (.node (b3sub 4) .nil .nil)))) (.node (o12 36) (.node o20 (.node o36 (.node o68 (.node (b3sub 16) .nil .nil) .nil) (.node o100 .nil .nil)) (.node o52 (.node o84 .nil .nil) (.node (b3main 20) .nil .nil))) (.node o28 (.node o44 (.node o76 .nil .nil) (.node o108 .nil .nil)) (.node o60 (.node o92 .nil .nil) (.node (b3sub 8) .nil .nil))))) (.node (boot_o_6 P) (.node (boot_o_10 P) (.node o18 (.node o34 (.node o66 (.node (b3sub 14) .nil .nil) .nil) (.node o98 .nil .nil)) (.node o50 (.node o82 .nil .nil) (.node o114 .nil .nil))) (.node o26 (.node o42 (.node o74 .nil .nil) (.node o106 .nil .nil)) (.node o58 (.node (o90 P) .nil .nil) (.node (b3sub 6) .nil .nil)))) (.node o14 (.node o22 (.node o38 (.node o70 (.node (b3sub 18) .nil .nil) .nil) (.node o102 .nil .nil)) (.node o54 (.node o86 .nil .nil) (.node (b3sub 2) .nil .nil))) (.node o30 (.node o46 (.node o78 .nil .nil) (.node o110 .nil .nil)) (.node o62 (.node o94 .nil .nil) (.node (b3sub 10) .nil .nil)))))))
noncomputable def hv22 (P : Params) : BT := (.node (boot_o_0 P) (.node (boot_o_1 P) (.node (o3 (.str "cpy313.stringprep" 348) 25 26 P) (.node (boot_o_7 P) (.node o15 (.node o31 (.node o63 (.node (b3sub 11) .nil .nil) .nil) (.node o95 .nil .nil)) (.node o47 (.node o79 .nil .nil) (.node o111 .nil .nil))) (.node o23 (.node o39 (.node o71 (.node (b3sub 19) .nil .nil) .nil) (.node o103 .nil .nil)) (.node o55 (.node o87 .nil .nil) (.node (b3sub 3) .nil .nil)))) (.node o11 (.node o19 (.node o35 (.node o67 (.node (b3sub 15) .nil .nil) .nil) (.node o99 .nil .nil)) (.node o51 (.node o83 .nil .nil) (.node o115 .nil .nil))) (.node o27 (.node o43 (.node o75 .nil .nil) (.node o107 .nil .nil)) (.node o59 (.node o91 .nil .nil) (.node (b3sub 7) .nil .nil))))) (.node (boot_o_5 P) (.node (boot_o_9 P) (.node o17 (.node o33 (.node o65 (.node (b3sub 13) .nil .nil) .nil) (.node o97 .nil .nil)) (.node o49 (.node (o81 P) .nil .nil) (.node o113 .nil .nil))) (.node o25 (.node o41 (.node o73 (.node (b3sub 21) .nil .nil) .nil) (.node (o105 P) .nil .nil)) (.node o57 (.node o89 .nil .nil) (.node (b3sub 5) .nil .nil)))) (.node o13 (.node o21 (.node o37 (.node o69 (.node (b3sub 17) .nil .nil) .nil) (.node o101 .nil .nil)) (.node o53 (.node o85 .nil .nil) (.node (b3sub 1) .nil .nil))) (.node o29 (.node o45 (.node o77 .nil .nil) (.node o109 .nil .nil)) (.node o61 (.node o93 .nil .nil) (.node (b3sub 9) .nil .nil)))))) (.node (boot_o_2 P) (.node (boot_o_4 P) (.node (boot_o_8 P) (.node o16 (.node o32 (.node o64 (.node (b3sub 12) .nil .nil) .nil) (.node o96 .nil .nil)) (.node o48 (.node o80 .nil .nil) (.node o112 .nil .nil))) (.node o24 (.node o40 (.node (o72 P) (.node (b3sub 20) .nil .nil) .nil) (.node o104 .nil .nil)) (.node o56 (.node o88 .nil .nil) (.node (b3sub 4) .nil .nil)))) (.node (o12 36) (.node o20 (.node o36 (.node o68 (.node (b3sub 16) .nil .nil) .nil) (.node o100 .nil .nil)) (.node o52 (.node o84 .nil .nil) (.node (b3main 21) .nil .nil))) (.node o28 (.node o44 (.node o76 .nil .nil) (.node o108 .nil .nil)) (.node o60 (.node o92 .nil .nil) (.node (b3sub 8) .nil .nil))))) (.node (boot_o_6 P) (.node (boot_o_10 P) (.node o18 (.node o34 (.node o66 (.node (b3sub 14) .nil .nil) .nil) (.node o98 .nil .nil)) (.node o50 (.node o82 .nil .nil) (.node o114 .nil .nil))) (.node o26 (.node o42 (.node o74 .nil .nil) (.node o106 .nil .nil)) (.node o58 (.node (o90 P) .nil .nil) (.node (b3sub 6) .nil .nil)))) (.node o14 (.node o22 (.node o38 (.node o70 (.node (b3sub 18) .nil .nil) .nil) (.node o102 .nil .nil)) (.node o54 (.node o86 .nil .nil) (.node (b3sub 2) .nil .nil))) (.node o30 (.node o46 (.node o78 .nil .nil) (.node o110 .nil .nil)) (.node o62 (.node o94 .nil .nil) (.node (b3sub 10) .nil .nil)))))))
noncomputable def hv23 (P : Params) : BT := (.node (boot_o_0 P) (.node (boot_o_1 P) (.node (o3 (.str "cpy313.stringprep" 348) 25 26 P) (.node (boot_o_7 P) (.node o15 (.node o31 (.node o63 (.node (b3sub 11) .nil .nil) .nil) (.node o95 .nil .nil)) (.node o47 (.node o79 .nil .nil) (.node o111 .nil .nil))) (.node o23 (.node o39 (.node o71 (.node (b3sub 19) .nil .nil) .nil) (.node o103 .nil .nil)) (.node o55 (.node o87 .nil .nil) (.node (b3sub 3) .nil .nil)))) (.node o11 (.node o19 (.node o35 (.node o67 (.node (b3sub 15) .nil .nil) .nil) (.node o99 .nil .nil)) (.node o51 (.node o83 .nil .nil) (.node o115 .nil .nil))) (.node o27 (.node o43 (.node o75 .nil .nil) (.node o107 .nil .nil)) (.node o59 (.node o91 .nil .nil) (.node (b3sub 7) .nil .nil))))) (.node (boot_o_5 P) (.node (boot_o_9 P) (.node o17 (.node o33 (.node o65 (.node (b3sub 13) .nil .nil) .nil) (.node o97 .nil .nil)) (.node o49 (.node (o81 P) .nil .nil) (.node o113 .nil .nil))) (.node o25 (.node o41 (.node o73 (.node (b3sub 21) .nil .nil) .nil) (.node (o105 P) .nil .nil)) (.node o57 (.node o89 .nil .nil) (.node (b3sub 5) .nil .nil)))) (.node o13 (.node o21 (.node o37 (.node o69 (.node (b3sub 17) .nil .nil) .nil) (.node o101 .nil .nil)) (.node o53 (.node o85 .nil .nil) (.node (b3sub 1) .nil .nil))) (.node o29 (.node o45 (.node o77 .nil .nil) (.node o109 .nil .nil)) (.node o61 (.node o93 .nil .nil) (.node (b3sub 9) .nil .nil)))))) (.node (boot_o_2 P) (.node (boot_o_4 P) (.node (boot_o_8 P) (.node o16 (.node o32 (.node o64 (.node (b3sub 12) .nil .nil) .nil) (.node o96 .nil .nil)) (.node o48 (.node o80 .nil .nil) (.node o112 .nil .nil))) (.node o24 (.node o40 (.node (o72 P) (.node (b3sub 20) .nil .nil) .nil) (.node o104 .nil .nil)) (.node o56 (.node o88 .nil .nil) (.node (b3sub 4) .nil .nil)))) (.node (o12 36) (.node o20 (.node o36 (.node o68 (.node (b3sub 16) .nil .nil) .nil) (.node o100 .nil .nil)) (.node o52 (.node o84 .nil .nil) (.node (b3main 22) .nil .nil))) (.node o28 (.node o44 (.node o76 .nil .nil) (.node o108 .nil .nil)) (.node o60 (.node o92 .nil .nil) (.node (b3sub 8) .nil .nil))))) (.node (boot_o_6 P) (.node (boot_o_10 P) (.node o18 (.node o34 (.node o66 (.node (b3sub 14) .nil .nil) .nil) (.node o98 .nil .nil)) (.node o50 (.node o82 .nil .nil) (.node o114 .nil .nil))) (.node o26 (.node o42 (.node o74 (.node (b3sub 22) .nil .nil) .nil) (.node o106 .nil .nil)) (.node o58 (.node (o90 P) .nil .nil) (.node (b3sub 6) .nil .nil)))) (.node o14 (.node o22 (.node o38 (.node o70 (.node (b3sub 18) .nil .nil) .nil) (.node o102 .nil .nil)) (.node o54 (.node o86 .nil .nil) (.node (b3sub 2) .nil .nil))) (.node o30 (.node o46 (.node o78 .nil .nil) (.node o110 .nil .nil)) (.node o62 (.node o94 .nil .nil) (.node (b3sub 10) .nil .nil)))))))
noncomputable def hv24 (P : Params) : BT := (.node (boot_o_0 P) (.node (boot_o_1 P) (.node (o3 (.str "cpy313.stringprep" 348) 25 26 P) (.node (boot_o_7 P) (.node o15 (.node o31 (.node o63 (.node (b3sub 11) .nil .nil) .nil) (.node o95 .nil .nil)) (.node o47 (.node o79 .nil .nil) (.node o111 .nil .nil))) (.node o23 (.node o39 (.node o71 (.node (b3sub 19) .nil .nil) .nil) (.node o103 .nil .nil)) (.node o55 (.node o87 .nil .nil) (.node (b3sub 3) .nil .nil)))) (.node o11 (.node o19 (.node o35 (.node o67 (.node (b3sub 15) .nil .nil) .nil) (.node o99 .nil .nil)) (.node o51 (.node o83 .nil .nil) (.node o115 .nil .nil))) (.node o27 (.node o43 (.node o75 (.node (b3sub 23) .nil .nil) .nil) (.node o107 .nil .nil)) (.node o59 (.node o91 .nil .nil) (.node (b3sub 7) .nil .nil))))) (.node (boot_o_5 P) (.node (boot_o_9 P) (.node o17 (.node o33 (.node o65 (.node (b3sub 13) .nil .nil) .nil) (.node o97 .nil .nil)) (.node o49 (.node (o81 P) .nil .nil) (.node o113 .nil .nil))) (.node o25 (.node o41 (.node o73 (.node (b3sub 21) .nil .nil) .nil) (.node (o105 P) .nil .nil)) (.node o57 (.node o89 .nil .nil) (.node (b3sub 5) .nil .nil)))) (.node o13 (.node o21 (.node o37 (.node o69 (.node (b3sub 17) .nil .nil) .nil) (.node o101 .nil .nil)) (.node o53 (.node o85 .nil .nil) (.node (b3sub 1) .nil .nil))) (.node o29 (.node o45 (.node o77 .nil .nil) (.node o109 .nil .nil)) (.node o61 (.node o93 .nil .nil) (.node (b3sub 9) .nil .nil)))))) (.node (boot_o_2 P) (.node (boot_o_4 P) (.node (boot_o_8 P) (.node o16 (.node o32 (.node o64 (.node (b3sub 12) .nil .nil) .nil) (.node o96 .nil .nil)) (.node o48 (.node o80 .nil .nil) (.node o112 .nil .nil))) (.node o24 (.node o40 (.node (o72 P) (.node (b3sub 20) .nil .nil) .nil) (.node o104 .nil .nil)) (.node o56 (.node o88 .nil .nil) (.node (b3sub 4) .nil .nil)))) (.node (o12 36) (.node o20 (.node o36 (.node o68 (.node (b3sub 16) .nil .nil) .nil) (.node o100 .nil .nil)) (.node o52 (.node o84 .nil .nil) (.node (b3main 23) .nil .nil))) (.node o28 (.node o44 (.node o76 .nil .nil) (.node o108 .nil .nil)) (.node o60 (.node o92 .nil .nil) (.node (b3sub 8) .nil .nil))))) (.node (boot_o_6 P) (.node (boot_o_10 P) (.node o18 (.node o34 (.node o66 (.node (b3sub 14) .nil .nil) .nil) (.node o98 .nil .nil)) (.node o50 (.node o82 .nil .nil) (.node o114 .nil .nil))) (.node o26 (.node o42 (.node o74 (.node (b3sub 22) .nil .nil) .nil) (.node o106 .nil .nil)) (.node o58 (.node (o90 P) .nil .nil) (.node (b3sub 6) .nil .nil)))) (.node o14 (.node o22 (.node o38 (.node o70 (.node (b3sub 18) .nil .nil) .nil) (.node o102 .nil .nil)) (.node o54 (.node o86 .nil .nil) (.node (b3sub 2) .nil .nil))) (.node o30 (.node o46 (.node o78 .nil .nil) (.node o110 .nil .nil)) (.node o62 (.node o94 .nil .nil) (.node (b3sub 10) .nil .nil)))))))
noncomputable def hv25 (P : Params) : BT := (.node (boot_o_0 P) (.node (boot_o_1 P) (.node (o3 (.str "cpy313.stringprep" 348) 25 26 P) (.node (boot_o_7 P) (.node o15 (.node o31 (.node o63 (.node (b3sub 11) .nil .nil) .nil) (.node o95 .nil .nil)) (.node o47 (.node o79 .nil .nil) (.node o111 .nil .nil))) (.node o23 (.node o39 (.node o71 (.node (b3sub 19) .nil .nil) .nil) (.node o103 .nil .nil)) (.node o55 (.node o87 .nil .nil) (.node (b3sub 3) .nil .nil)))) (.node o11 (.node o19 (.node o35 (.node o67 (.node (b3sub 15) .nil .nil) .nil) (.node o99 .nil .nil)) (.node o51 (.node o83 .nil .nil) (.node o115 .nil .nil))) (.node o27 (.node o43 (.node o75 (.node (b3sub 23) .nil .nil) .nil) (.node o107 .nil .nil)) (.node o59 (.node o91 .nil .nil) (.node (b3sub 7) .nil .nil))))) (.node (boot_o_5 P) (.node (boot_o_9 P) (.node o17 (.node o33 (.node o65 (.node (b3sub 13) .nil .nil) .nil) (.node o97 .nil .nil)) (.node o49 (.node (o81 P) .nil .nil) (.node o113 .nil .nil))) (.node o25 (.node o41 (.node o73 (.node (b3sub 21) .nil .nil) .nil) (.node (o105 P) .nil .nil)) (.node o57 (.node o89 .nil .nil) (.node (b3sub 5) .nil .nil)))) (.node o13 (.node o21 (.node o37 (.node o69 (.node (b3sub 17) .nil .nil) .nil) (.node o101 .nil .nil)) (.node o53 (.node o85 .nil .nil) (.node (b3sub 1) .nil .nil))) (.node o29 (.node o45 (.node o77 .nil .nil) (.node o109 .nil .nil)) (.node o61 (.node o93 .nil .nil) (.node (b3sub 9) .nil .nil)))))) (.node (boot_o_2 P) (.node (boot_o_4 P) (.node (boot_o_8 P) (.node o16 (.node o32 (.node o64 (.node (b3sub 12) .nil .nil) .nil) (.node o96 .nil .nil)) (.node o48 (.node o80 .nil .nil) (.node o112 .nil .nil))) (.node o24 (.node o40 (.node (o72 P) (.node (b3sub 20) .nil .nil) .nil) (.node o104 .nil .nil)) (.node o56 (.node o88 .nil .nil) (.node (b3sub 4) .nil .nil)))) (.node (o12 36) (.node o20 (.node o36 (.node o68 (.node (b3sub 16) .nil .nil) .nil) (.node o100 .nil .nil)) (.node o52 (.node o84 .nil .nil) (.node (b3main 24) .nil .nil))) (.node o28 (.node o44 (.node o76 (.node (b3sub 24) .nil .nil) .nil) (.node o108 .nil .nil)) (.node o60 (.node o92 .nil .nil) (.node (b3sub 8) .nil .nil))))) (.node (boot_o_6 P) (.node (boot_o_10 P) (.node o18 (.node o34 (.node o66 (.node (b3sub 14) .nil .nil) .nil) (.node o98 .nil .nil)) (.node o50 (.node o82 .nil .nil) (.node o114 .nil .nil))) (.node o26 (.node o42 (.node o74 (.node (b3sub 22) .nil .nil) .nil) (.node o106 .nil .nil)) (.node o58 (.node (o90 P) .nil .nil) (.node (b3sub 6) .nil .nil)))) (.node o14 (.node o22 (.node o38 (.node o70 (.node (b3sub 18) .nil .nil) .nil) (.node o102 .nil .nil)) (.node o54 (.node o86 .nil .nil) (.node (b3sub 2) .nil .nil))) (.node o30 (.node o46 (.node o78 .nil .nil) (.node o110 .nil .nil)) (.node o62 (.node o94 .nil .nil) (.node (b3sub 10) .nil .nil)))))))
noncomputable def hv26 (P : Params) : BT := (.node (boot_o_0 P) (.node (boot_o_1 P) (.node (o3 (.str "cpy313.stringprep" 348) 25 26 P) (.node (boot_o_7 P) (.node o15 (.node o31 (.node o63 (.node (b3sub 11) .nil .nil) .nil) (.node o95 .nil .nil)) (.node o47 (.node o79 .nil .nil) (.node o111 .nil .nil))) (.node o23 (.node o39 (.node o71 (.node (b3sub 19) .nil .nil) .nil) (.node o103 .nil .nil)) (.node o55 (.node o87 .nil .nil) (.node (b3sub 3) .nil .nil)))) (.node o11 (.node o19 (.node o35 (.node o67 (.node (b3sub 15) .nil .nil) .nil) (.node o99 .nil .nil)) (.node o51 (.node o83 .nil .nil) (.node o115 .nil .nil))) (.node o27 (.node o43 (.node o75 (.node (b3sub 23) .nil .nil) .nil) (.node o107 .nil .nil)) (.node o59 (.node o91 .nil .nil) (.node (b3sub 7) .nil .nil))))) (.node (boot_o_5 P) (.node (boot_o_9 P) (.node o17 (.node o33 (.node o65 (.node (b3sub 13) .nil .nil) .nil) (.node o97 .nil .nil)) (.node o49 (.node (o81 P) .nil .nil) (.node o113 .nil .nil))) (.node o25 (.node o41 (.node o73 (.node (b3sub 21) .nil .nil) .nil) (.node (o105 P) .nil .nil)) (.node o57 (.node o89 .nil .nil) (.node (b3sub 5) .nil .nil)))) (.node o13 (.node o21 (.node o37 (.node o69 (.node (b3sub 17) .nil .nil) .nil) (.node o101 .nil .nil)) (.node o53 (.node o85 .nil .nil) (.node (b3sub 1) .nil .nil))) (.node o29 (.node o45 (.node o77 (.node (b3sub 25) .nil .nil) .nil) (.node o109 .nil .nil)) (.node o61 (.node o93 .nil .nil) (.node (b3sub 9) .nil .nil)))))) (.node (boot_o_2 P) (.node (boot_o_4 P) (.node (boot_o_8 P) (.node o16 (.node o32 (.node o64 (.node (b3sub 12) .nil .nil) .nil) (.node o96 .nil .nil)) (.node o48 (.node o80 .nil .nil) (.node o112 .nil .nil))) (.node o24 (.node o40 (.node (o72 P) (.node (b3sub 20) .nil .nil) .nil) (.node o104 .nil .nil)) (.node o56 (.node o88 .nil .nil) (.node (b3sub 4) .nil .nil)))) (.node (o12 36) (.node o20 (.node o36 (.node o68 (.node (b3sub 16) .nil .nil) .nil) (.node o100 .nil .nil)) (.node o52 (.node o84 .nil .nil) (.node (b3main 25) .nil .nil))) (.node o28 (.node o44 (.node o76 (.node (b3sub 24) .nil .nil) .nil) (.node o108 .nil .nil)) (.node o60 (.node o92 .nil .nil) (.node (b3sub 8) .nil .nil))))) (.node (boot_o_6 P) (.node (boot_o_10 P) (.node o18 (.node o34 (.node o66 (.node (b3sub 14) .nil .nil) .nil) (.node o98 .nil .nil)) (.node o50 (.node o82 .nil .nil) (.node o114 .nil .nil))) (.node o26 (.node o42 (.node o74 (.node (b3sub 22) .nil .nil) .nil) (.node o106 .nil .nil)) (.node o58 (.node (o90 P) .nil .nil) (.node (b3sub 6) .nil .nil)))) (.node o14 (.node o22 (.node o38 (.node o70 (.node (b3sub 18) .nil .nil) .nil) (.node o102 .nil .nil)) (.node o54 (.node o86 .nil .nil) (.node (b3sub 2) .nil .nil))) (.node o30 (.node o46 (.node o78 .nil .nil) (.node o110 .nil .nil)) (.node o62 (.node o94 .nil .nil) (.node (b3sub 10) .nil .nil)))))))
noncomputable def hv27 (P : Params) : BT := (.node (boot_o_0 P) (.node (boot_o_1 P) (.node (o3 (.str "cpy313.stringprep" 348) 25 26 P) (.node (boot_o_7 P) (.node o15 (.node o31 (.node o63 (.node (b3sub 11) .nil .nil) .nil) (.node o95 .nil .nil)) (.node o47 (.node o79 .nil .nil) (.node o111 .nil .nil))) (.node o23 (.node o39 (.node o71 (.node (b3sub 19) .nil .nil) .nil) (.node o103 .nil .nil)) (.node o55 (.node o87 .nil .nil) (.node (b3sub 3) .nil .nil)))) (.node o11 (.node o19 (.node o35 (.node o67 (.node (b3sub 15) .nil .nil) .nil) (.node o99 .nil .nil)) (.node o51 (.node o83 .nil .nil) (.node o115 .nil .nil))) (.node o27 (.node o43 (.node o75 (.node (b3sub 23) .nil .nil) .nil) (.node o107 .nil .nil)) (.node o59 (.node o91 .nil .nil) (.node (b3sub 7) .nil .nil))))) (.node (boot_o_5 P) (.node (boot_o_9 P) (.node o17 (.node o33 (.node o65 (.node (b3sub 13) .nil .nil) .nil) (.node o97 .nil .nil)) (.node o49 (.node (o81 P) .nil .nil) (.node o113 .nil .nil))) (.node o25 (.node o41 (.node o73 (.node (b3sub 21) .nil .nil) .nil) (.node (o105 P) .nil .nil)) (.node o57 (.node o89 .nil .nil) (.node (b3sub 5) .nil .nil)))) (.node o13 (.node o21 (.node o37 (.node o69 (.node (b3sub 17) .nil .nil) .nil) (.node o101 .nil .nil)) (.node o53 (.node o85 .nil .nil) (.node (b3sub 1) .nil .nil))) (.node o29 (.node o45 (.node o77 (.node (b3sub 25) .nil .nil) .nil) (.node o109 .nil .nil)) (.node o61 (.node o93 .nil .nil) (.node (b3sub 9) .nil .nil)))))) (.node (boot_o_2 P) (.node (boot_o_4 P) (.node (boot_o_8 P) (.node o16 (.node o32 (.node o64 (.node (b3sub 12) .nil .nil) .nil) (.node o96 .nil .nil)) (.node o48 (.node o80 .nil .nil) (.node o112 .nil .nil))) (.node o24 (.node o40 (.node (o72 P) (.node (b3sub 20) .nil .nil) .nil) (.node o104 .nil .nil)) (.node o56 (.node o88 .nil .nil) (.node (b3sub 4) .nil .nil)))) (.node (o12 36) (.node o20 (.node o36 (.node o68 (.node (b3sub 16) .nil .nil) .nil) (.node o100 .nil .nil)) (.node o52 (.node o84 .nil .nil) (.node (b3main 26) .nil .nil))) (.node o28 (.node o44 (.node o76 (.node (b3sub 24) .nil .nil) .nil) (.node o108 .nil .nil)) (.node o60 (.node o92 .nil .nil) (.node (b3sub 8) .nil .nil))))) (.node (boot_o_6 P) (.node (boot_o_10 P) (.node o18 (.node o34 (.node o66 (.node (b3sub 14) .nil .nil) .nil) (.node o98 .nil .nil)) (.node o50 (.node o82 .nil .nil) (.node o114 .nil .nil))) (.node o26 (.node o42 (.node o74 (.node (b3sub 22) .nil .nil) .nil) (.node o106 .nil .nil)) (.node o58 (.node (o90 P) .nil .nil) (.node (b3sub 6) .nil .nil)))) (.node o14 (.node o22 (.node o38 (.node o70 (.node (b3sub 18) .nil .nil) .nil) (.node o102 .nil .nil)) (.node o54 (.node o86 .nil .nil) (.node (b3sub 2) .nil .nil))) (.node o30 (.node o46 (.node o78 (.node (b3sub 26) .nil .nil) .nil) (.node o110 .nil .nil)) (.node o62 (.node o94 .nil .nil) (.node (b3sub 10) .nil .nil)))))))
noncomputable def hv28 (P : Params) : BT := (.node (boot_o_0 P) (.node (boot_o_1 P) (.node (o3 (.str "cpy313.stringprep" 348) 25 26 P) (.node (boot_o_7 P) (.node o15 (.node o31 (.node o63 (.node (b3sub 11) .nil .nil) .nil) (.node o95 .nil .nil)) (.node o47 (.node o79 (.node (b3sub 27) .nil .nil) .nil) (.node o111 .nil .nil))) (.node o23 (.node o39 (.node o71 (.node (b3sub 19) .nil .nil) .nil) (.node o103 .nil .nil)) (.node o55 (.node o87 .nil .nil) (.node (b3sub 3) .nil .nil)))) (.node o11 (.node o19 (.node o35 (.node o67 (.node (b3sub 15) .nil .nil) .nil) (.node o99 .nil .nil)) (.node o51 (.node o83 .nil .nil) (.node o115 .nil .nil))) (.node o27 (.node o43 (.node o75 (.node (b3sub 23) .nil .nil) .nil) (.node o107 .nil .nil)) (.node o59 (.node o91 .nil .nil) (.node (b3sub 7) .nil .nil))))) (.node (boot_o_5 P) (.node (boot_o_9 P) (.node o17 (.node o33 (.node o65 (.node (b3sub 13) .nil .nil) .nil) (.node o97 .nil .nil)) (.node o49 (.node (o81 P) .nil .nil) (.node o113 .nil .nil))) (.node o25 (.node o41 (.node o73 (.node (b3sub 21) .nil .nil) .nil) (.node (o105 P) .nil .nil)) (.node o57 (.node o89 .nil .nil) (.node (b3sub 5) .nil .nil)))) (.node o13 (.node o21 (.node o37 (.node o69 (.node (b3sub 17) .nil .nil) .nil) (.node o101 .nil .nil)) (.node o53 (.node o85 .nil .nil) (.node (b3sub 1) .nil .nil))) (.node o29 (.node o45 (.node o77 (.node (b3sub 25) .nil .nil) .nil) (.node o109 .nil .nil)) (.node o61 (.node o93 .nil .nil) (.node (b3sub 9) .nil .nil)))))) (.node (boot_o_2 P) (.node (boot_o_4 P) (.node (boot_o_8 P) (.node o16 (.node o32 (.node o64 (.node (b3sub 12) .nil .nil) .nil) (.node o96 .nil .nil)) (.node o48 (.node o80 .nil .nil) (.node o112 .nil .nil))) (.node o24 (.node o40 (.node (o72 P) (.node (b3sub 20) .nil .nil) .nil) (.node o104 .nil .nil)) (.node o56 (.node o88 .nil .nil) (.node (b3sub 4) .nil .nil)))) (.node (o12 36) (.node o20 (.node o36 (.node o68 (.node (b3sub 16) .nil .nil) .nil) (.node o100 .nil .nil)) (.node o52 (.node o84 .nil .nil) (.node (b3main 27) .nil .nil))) (.node o28 (.node o44 (.node o76 (.node (b3sub 24) .nil .nil) .nil) (.node o108 .nil .nil)) (.node o60 (.node o92 .nil .nil) (.node (b3sub 8) .nil .nil))))) (.node (boot_o_6 P) (.node (boot_o_10 P) (.node o18 (.node o34 (.node o66 (.node (b3sub 14) .nil .nil) .nil) (.node o98 .nil .nil)) (.node o50 (.node o82 .nil .nil) (.node o114 .nil .nil))) (.node o26 (.node o42 (.node o74 (.node (b3sub 22) .nil .nil) .nil) (.node o106 .nil .nil)) (.node o58 (.node (o90 P) .nil .nil) (.node (b3sub 6) .nil .nil)))) (.node o14 (.node o22 (.node o38 (.node o70 (.node (b3sub 18) .nil .nil) .nil) (.node o102 .nil .nil)) (.node o54 (.node o86 .nil .nil) (.node (b3sub 2) .nil .nil))) (.node o30 (.node o46 (.node o78 (.node (b3sub 26) .nil .nil) .nil) (.node o110 .nil .nil)) (.node o62 (.node o94 .nil .nil) (.node (b3sub 10) .nil .nil)))))))
noncomputable def hv29 (P : Params) : BT := (.node (boot_o_0 P) (.node (boot_o_1 P) (.node (o3 (.str "cpy313.stringprep" 348) 25 26 P) (.node (boot_o_7 P) (.node o15 (.node o31 (.node o63 (.node (b3sub 11) .nil .nil) .nil) (.node o95 .nil .nil)) (.node o47 (.node o79 (.node (b3sub 27) .nil .nil) .nil) (.node o111 .nil .nil))) (.node o23 (.node o39 (.node o71 (.node (b3sub 19) .nil .nil) .nil) (.node o103 .nil .nil)) (.node o55 (.node o87 .nil .nil) (.node (b3sub 3) .nil .nil)))) (.node o11 (.node o19 (.node o35 (.node o67 (.node (b3sub 15) .nil .nil) .nil) (.node o99 .nil .nil)) (.node o51 (.node o83 .nil .nil) (.node o115 .nil .nil))) (.node o27 (.node o43 (.node o75 (.node (b3sub 23) .nil .nil) .nil) (.node o107 .nil .nil)) (.node o59 (.node o91 .nil .nil) (.node (b3sub 7) .nil .nil))))) (.node (boot_o_5 P) (.node (boot_o_9 P) (.node o17 (.node o33 (.node o65 (.node (b3sub 13) .nil .nil) .nil) (.node o97 .nil .nil)) (.node o49 (.node (o81 P) .nil .nil) (.node o113 .nil .nil))) (.node o25 (.node o41 (.node o73 (.node (b3sub 21) .nil .nil) .nil) (.node (o105 P) .nil .nil)) (.node o57 (.node o89 .nil .nil) (.node (b3sub 5) .nil .nil)))) (.node o13 (.node o21 (.node o37 (.node o69 (.node (b3sub 17) .nil .nil) .nil) (.node o101 .nil .nil)) (.node o53 (.node o85 .nil .nil) (.node (b3sub 1) .nil .nil))) (.node o29 (.node o45 (.node o77 (.node (b3sub 25) .nil .nil) .nil) (.node o109 .nil .nil)) (.node o61 (.node o93 .nil .nil) (.node (b3sub 9) .nil .nil)))))) (.node (boot_o_2 P) (.node (boot_o_4 P) (.node (boot_o_8 P) (.node o16 (.node o32 (.node o64 (.node (b3sub 12) .nil .nil) .nil) (.node o96 .nil .nil)) (.node o48 (.node o80 (.node (b3sub 28) .nil .nil) .nil) (.node o112 .nil .nil))) (.node o24 (.node o40 (.node (o72 P) (.node (b3sub 20) .nil .nil) .nil) (.node o104 .nil .nil)) (.node o56 (.node o88 .nil .nil) (.node (b3sub 4) .nil .nil)))) (.node (o12 36) (.node o20 (.node o36 (.node o68 (.node (b3sub 16) .nil .nil) .nil) (.node o100 .nil .nil)) (.node o52 (.node o84 .nil .nil) (.node (b3main 28) .nil .nil))) (.node o28 (.node o44 (.node o76 (.node (b3sub 24) .nil .nil) .nil) (.node o108 .nil .nil)) (.node o60 (.node o92 .nil .nil) (.node (b3sub 8) .nil .nil))))) (.node (boot_o_6 P) (.node (boot_o_10 P) (.node o18 (.node o34 (.node o66 (.node (b3sub 14) .nil .nil) .nil) (.node o98 .nil .nil)) (.node o50 (.node o82 .nil .nil) (.node o114 .nil .nil))) (.node o26 (.node o42 (.node o74 (.node (b3sub 22) .nil .nil) .nil) (.node o106 .nil .nil)) (.node o58 (.node (o90 P) .nil .nil) (.node (b3sub 6) .nil .nil)))) (.node o14 (.node o22 (.node o38 (.node o70 (.node (b3sub 18) .nil .nil) .nil) (.node o102 .nil .nil)) (.node o54 (.node o86 .nil .nil) (.node (b3sub 2) .nil .nil))) (.node o30 (.node o46 (.node o78 (.node (b3sub 26) .nil .nil) .nil) (.node o110 .nil .nil)) (.node o62 (.node o94 .nil .nil) (.node (b3sub 10) .nil .nil)))))))
noncomputable def hv30 (P : Params) : BT := (.node (boot_o_0 P) (.node (boot_o_1 P) (.node (o3 (.str "cpy313.stringprep" 348) 25 26 P) (.node (boot_o_7 P) (.node o15 (.node o31 (.node o63 (.node (b3sub 11) .nil .nil) .nil) (.node o95 .nil .nil)) (.node o47 (.node o79 (.node (b3sub 27) .nil .nil) .nil) (.node o111 .nil .nil))) (.node o23 (.node o39 (.node o71 (.node (b3sub 19) .nil .nil) .nil) (.node o103 .nil .nil)) (.node o55 (.node o87 .nil .nil) (.node (b3sub 3) .nil .nil)))) (.node o11 (.node o19 (.node o35 (.node o67 (.node (b3sub 15) .nil .nil) .nil) (.node o99 .nil .nil)) (.node o51 (.node o83 .nil .nil) (.node o115 .nil .nil))) (.node o27 (.node o43 (.node o75 (.node (b3sub 23) .nil .nil) .nil) (.node o107 .nil .nil)) (.node o59 (.node o91 .nil .nil) (.node (b3sub 7) .nil .nil))))) (.node (boot_o_5 P) (.node (boot_o_9 P) (.node o17 (.node o33 (.node o65 (.node (b3sub 13) .nil .nil) .nil) (.node o97 .nil .nil)) (.node o49 (.node (o81 P) (.node (b3sub 29) .nil .nil) .nil) (.node o113 .nil .nil))) (.node o25 (.node o41 (.node o73 (.node (b3sub 21) .nil .nil) .nil) (.node (o105 P) .nil .nil)) (.node o57 (.node o89 .nil .nil) (.node (b3sub 5) .nil .nil)))) (.node o13 (.node o21 (.node o37 (.node o69 (.node (b3sub 17) .nil .nil) .nil) (.node o101 .nil .nil)) (.node o53 (.node o85 .nil .nil) (.node (b3sub 1) .nil .nil))) (.node o29 (.node o45 (.node o77 (.node (b3sub 25) .nil .nil) .nil) (.node o109 .nil .nil)) (.node o61 (.node o93 .nil .nil) (.node (b3sub 9) .nil .nil)))))) (.node (boot_o_2 P) (.node (boot_o_4 P) (.node (boot_o_8 P) (.node o16 (.node o32 (.node o64 (.node (b3sub 12) .nil .nil) .nil) (.node o96 .nil .nil)) (.node o48 (.node o80 (.node (b3sub 28) .nil .nil) .nil) (.node o112 .nil .nil))) (.node o24 (.node o40 (.node (o72 P) (.node (b3sub 20) .nil .nil) .nil) (.node o104 .nil .nil)) (.node o56 (.node o88 .nil .nil) (.node (b3sub 4) .nil .nil)))) (.node (o12 36) (.node o20 (.node o36 (.node o68 (.node (b3sub 16) .nil .nil) .nil) (.node o100 .nil .nil)) (.node o52 (.node o84 .nil .nil) (.node (b3main 29) .nil .nil))) (.node o28 (.node o44 (.node o76 (.node (b3sub 24) .nil .nil) .nil) (.node o108 .nil .nil)) (.node o60 (.node o92 .nil .nil) (.node (b3sub 8) .nil .nil))))) (.node (boot_o_6 P) (.node (boot_o_10 P) (.node o18 (.node o34 (.node o66 (.node (b3sub 14) .nil .nil) .nil) (.node o98 .nil .nil)) (.node o50 (.node o82 .nil .nil) (.node o114 .nil .nil))) (.node o26 (.node o42 (.node o74 (.node (b3sub 22) .nil .nil) .nil) (.node o106 .nil .nil)) (.node o58 (.node (o90 P) .nil .nil) (.node (b3sub 6) .nil .nil)))) (.node o14 (.node o22 (.node o38 (.node o70 (.node (b3sub 18) .nil .nil) .nil) (.node o102 .nil .nil)) (.node o54 (.node o86 .nil .nil) (.node (b3sub 2) .nil .nil))) (.node o30 (.node o46 (.node o78 (.node (b3sub 26) .nil .nil) .nil) (.node o110 .nil .nil)) (.node o62 (.node o94 .nil .nil) (.node (b3sub 10) .nil .nil)))))))
noncomputable def hv31 (P : Params) : BT := (.node (boot_o_0 P) (.node (boot_o_1 P) (.node (o3 (.str "cpy313.stringprep" 348) 25 26 P) (.node (boot_o_7 P) (.node o15 (.node o31 (.node o63 (.node (b3sub 11) .nil .nil) .nil) (.node o95 .nil .nil)) (.node o47 (.node o79 (.node (b3sub 27) .nil .nil) .nil) (.node o111 .nil .nil))) (.node o23 (.node o39 (.node o71 (.node (b3sub 19) .nil .nil) .nil) (.node o103 .nil .nil)) (.node o55 (.node o87 .nil .nil) (.node (b3sub 3) .nil .nil)))) (.node o11 (.node o19 (.node o35 (.node o67 (.node (b3sub 15) .nil .nil) .nil) (.node o99 .nil .nil)) (.node o51 (.node o83 .nil .nil) (.node o115 .nil .nil))) (.node o27 (.node o43 (.node o75 (.node (b3sub 23) .nil .nil) .nil) (.node o107 .nil .nil)) (.node o59 (.node o91 .nil .nil) (.node (b3sub 7) .nil .nil))))) (.node (boot_o_5 P) (.node (boot_o_9 P) (.node o17 (.node o33 (.node o65 (.node (b3sub 13) .nil .nil) .nil) (.node o97 .nil .nil)) (.node o49 (.node (o81 P) (.node (b3sub 29) .nil .nil) .nil) (.node o113 .nil .nil))) (.node o25 (.node o41 (.node o73 (.node (b3sub 21) .nil .nil) .nil) (.node (o105 P) .nil .nil)) (.node o57 (.node o89 .nil .nil) (.node (b3sub 5) .nil .nil)))) (.node o13 (.node o21 (.node o37 (.node o69 (.node (b3sub 17) .nil .nil) .nil) (.node o101 .nil .nil)) (.node o53 (.node o85 .nil .nil) (.node (b3sub 1) .nil .nil))) (.node o29 (.node o45 (.node o77 (.node (b3sub 25) .nil .nil) .nil) (.node o109 .nil .nil)) (.node o61 (.node o93 .nil .nil) (.node (b3sub 9) .nil .nil)))))) (.node (boot_o_2 P) (.node (boot_o_4 P) (.node (boot_o_8 P) (.node o16 (.node o32 (.node o64 (.node (b3sub 12) .nil .nil) .nil) (.node o96 .nil .nil)) (.node o48 (.node o80 (.node (b3sub 28) .nil .nil) .nil) (.node o112 .nil .nil))) (.node o24 (.node o40 (.node (o72 P) (.node (b3sub 20) .nil .nil) .nil) (.node o104 .nil .nil)) (.node o56 (.node o88 .nil .nil) (.node (b3sub 4) .nil .nil)))) (.node (o12 36) (.node o20 (.node o36 (.node o68 (.node (b3sub 16) .nil .nil) .nil) (.node o100 .nil .nil)) (.node o52 (.node o84 .nil .nil) (.node (b3main 30) .nil .nil))) (.node o28 (.node o44 (.node o76 (.node (b3sub 24) .nil .nil) .nil) (.node o108 .nil .nil)) (.node o60 (.node o92 .nil .nil) (.node (b3sub 8) .nil .nil))))) (.node (boot_o_6 P) (.node (boot_o_10 P) (.node o18 (.node o34 (.node o66 (.node (b3sub 14) .nil .nil) .nil) (.node o98 .nil .nil)) (.node o50 (.node o82 (.node (b3sub 30) .nil .nil) .nil) (.node o114 .nil .nil))) (.node o26 (.node o42 (.node o74 (.node (b3sub 22) .nil .nil) .nil) (.node o106 .nil .nil)) (.node o58 (.node (o90 P) .nil .nil) (.node (b3sub 6) .nil .nil)))) (.node o14 (.node o22 (.node o38 (.node o70 (.node (b3sub 18) .nil .nil) .nil) (.node o102 .nil .nil)) (.node o54 (.node o86 .nil .nil) (.node (b3sub 2) .nil .nil))) (.node o30 (.node o46 (.node o78 (.node (b3sub 26) .nil .nil) .nil) (.node o110 .nil .nil)) (.node o62 (.node o94 .nil .nil) (.node (b3sub 10) .nil .nil)))))))
noncomputable def hv32 (P : Params) : BT := (.node (boot_o_0 P) (.node (boot_o_1 P) (.node (o3 (.str "cpy313.stringprep" 348) 25 26 P) (.node (boot_o_7 P) (.node o15 (.node o31 (.node o63 (.node (b3sub 11) .nil .nil) .nil) (.node o95 .nil .nil)) (.node o47 (.node o79 (.node (b3sub 27) .nil .nil) .nil) (.node o111 .nil .nil))) (.node o23 (.node o39 (.node o71 (.node (b3sub 19) .nil .nil) .nil) (.node o103 .nil .nil)) (.node o55 (.node o87 .nil .nil) (.node (b3sub 3) .nil .nil)))) (.node o11 (.node o19 (.node o35 (.node o67 (.node (b3sub 15) .nil .nil) .nil) (.node o99 .nil .nil)) (.node o51 (.node o83 (.node (b3sub 31) .nil .nil) .nil) (.node o115 .nil .nil))) (.node o27 (.node o43 (.node o75 (.node (b3sub 23) .nil .nil) .nil) (.node o107 .nil .nil)) (.node o59 (.node o91 .nil .nil) (.node (b3sub 7) .nil .nil))))) (.node (boot_o_5 P) (.node (boot_o_9 P) (.node o17 (.node o33 (.node o65 (.node (b3sub 13) .nil .nil) .nil) (.node o97 .nil .nil)) (.node o49 (.node (o81 P) (.node (b3sub 29) .nil .nil) .nil) (.node o113 .nil .nil))) (.node o25 (.node o41 (.node o73 (.node (b3sub 21) .nil .nil) .nil) (.node (o105 P) .nil .nil)) (.node o57 (.node o89 .nil .nil) (.node (b3sub 5) .nil .nil)))) (.node o13 (.node o21 (.node o37 (.node o69 (.node (b3sub 17) .nil .nil) .nil) (.node o101 .nil .nil)) (.node o53 (.node o85 .nil .nil) (.node (b3sub 1) .nil .nil))) (.node o29 (.node o45 (.node o77 (.node (b3sub 25) .nil .nil) .nil) (.node o109 .nil .nil)) (.node o61 (.node o93 .nil .nil) (.node (b3sub 9) .nil .nil)))))) (.node (boot_o_2 P) (.node (boot_o_4 P) (.node (boot_o_8 P) (.node o16 (.node o32 (.node o64 (.node (b3sub 12) .nil .nil) .nil) (.node o96 .nil .nil)) (.node o48 (.node o80 (.node (b3sub 28) .nil .nil) .nil) (.node o112 .nil .nil))) (.node o24 (.node o40 (.node (o72 P) (.node (b3sub 20) .nil .nil) .nil) (.node o104 .nil .nil)) (.node o56 (.node o88 .nil .nil) (.node (b3sub 4) .nil .nil)))) (.node (o12 36) (.node o20 (.node o36 (.node o68 (.node (b3sub 16) .nil .nil) .nil) (.node o100 .nil .nil)) (.node o52 (.node o84 .nil .nil) (.node (b3main 31) .nil .nil))) (.node o28 (.node o44 (.node o76 (.node (b3sub 24) .nil .nil) .nil) (.node o108 .nil .nil)) (.node o60 (.node o92 .nil .nil) (.node (b3sub 8) .nil .nil))))) (.node (boot_o_6 P) (.node (boot_o_10 P) (.node o18 (.node o34 (.node o66 (.node (b3sub 14) .nil .nil) .nil) (.node o98 .nil .nil)) (.node o50 (.node o82 (.node (b3sub 30) .nil .nil) .nil) (.node o114 .nil .nil))) (.node o26 (.node o42 (.node o74 (.node (b3sub 22) .nil .nil) .nil) (.node o106 .nil .nil)) (.node o58 (.node (o90 P) .nil .nil) (.node (b3sub 6) .nil .nil)))) (.node o14 (.node o22 (.node o38 (.node o70 (.node (b3sub 18) .nil .nil) .nil) (.node o102 .nil .nil)) (.node o54 (.node o86 .nil .nil) (.node (b3sub 2) .nil .nil))) (.node o30 (.node o46 (.node o78 (.node (b3sub 26) .nil .nil) .nil) (.node o110 .nil .nil)) (.node o62 (.node o94 .nil .nil) (.node (b3sub 10) .nil .nil)))))))
noncomputable def hv33 (P : Params) : BT := (.node (boot_o_0 P) (.node (boot_o_1 P) (.node (o3 (.str "cpy313.stringprep" 348) 25 26 P) (.node (boot_o_7 P) (.node o15 (.node o31 (.node o63 (.node (b3sub 11) .nil .nil) .nil) (.node o95 .nil .nil)) (.node o47 (.node o79 (.node (b3sub 27) .nil .nil) .nil) (.node o111 .nil .nil))) (.node o23 (.node o39 (.node o71 (.node (b3sub 19) .nil .nil) .nil) (.node o103 .nil .nil)) (.node o55 (.node o87 .nil .nil) (.node (b3sub 3) .nil .nil)))) (.node o11 (.node o19 (.node o35 (.node o67 (.node (b3sub 15) .nil .nil) .nil) (.node o99 .nil .nil)) (.node o51 (.node o83 (.node (b3sub 31) .nil .nil) .nil) (.node o115 .nil .nil))) (.node o27 (.node o43 (.node o75 (.node (b3sub 23) .nil .nil) .nil) (.node o107 .nil .nil)) (.node o59 (.node o91 .nil .nil) (.node (b3sub 7) .nil .nil))))) (.node (boot_o_5 P) (.node (boot_o_9 P) (.node o17 (.node o33 (.node o65 (.node (b3sub 13) .nil .nil) .nil) (.node o97 .nil .nil)) (.node o49 (.node (o81 P) (.node (b3sub 29) .nil .nil) .nil) (.node o113 .nil .nil))) (.node o25 (.node o41 (.node o73 (.node (b3sub 21) .nil .nil) .nil) (.node (o105 P) .nil .nil)) (.node o57 (.node o89 .nil .nil) (.node (b3sub 5) .nil .nil)))) (.node o13 (.node o21 (.node o37 (.node o69 (.node (b3sub 17) .nil .nil) .nil) (.node o101 .nil .nil)) (.node o53 (.node o85 .nil .nil) (.node (b3sub 1) .nil .nil))) (.node o29 (.node o45 (.node o77 (.node (b3sub 25) .nil .nil) .nil) (.node o109 .nil .nil)) (.node o61 (.node o93 .nil .nil) (.node (b3sub 9) .nil .nil)))))) (.node (boot_o_2 P) (.node (boot_o_4 P) (.node (boot_o_8 P) (.node o16 (.node o32 (.node o64 (.node (b3sub 12) .nil .nil) .nil) (.node o96 .nil .nil)) (.node o48 (.node o80 (.node (b3sub 28) .nil .nil) .nil) (.node o112 .nil .nil))) (.node o24 (.node o40 (.node (o72 P) (.node (b3sub 20) .nil .nil) .nil) (.node o104 .nil .nil)) (.node o56 (.node o88 .nil .nil) (.node (b3sub 4) .nil .nil)))) (.node (o12 36) (.node o20 (.node o36 (.node o68 (.node (b3sub 16) .nil .nil) .nil) (.node o100 .nil .nil)) (.node o52 (.node o84 (.node (b3sub 32) .nil .nil) .nil) (.node (b3main 32) .nil .nil))) (.node o28 (.node o44 (.node o76 (.node (b3sub 24) .nil .nil) .nil) (.node o108 .nil .nil)) (.node o60 (.node o92 .nil .nil) (.node (b3sub 8) .nil .nil))))) (.node (boot_o_6 P) (.node (boot_o_10 P) (.node o18 (.node o34 (.node o66 (.node (b3sub 14) .nil .nil) .nil) (.node o98 .nil .nil)) (.node o50 (.node o82 (.node (b3sub 30) .nil .nil) .nil) (.node o114 .nil .nil))) (.node o26 (.node o42 (.node o74 (.node (b3sub 22) .nil .nil) .nil) (.node o106 .nil .nil)) (.node o58 (.node (o90 P) .nil .nil) (.node (b3sub 6) .nil .nil)))) (.node o14 (.node o22 (.node o38 (.node o70 (.node (b3sub 18) .nil .nil) .nil) (.node o102 .nil .nil)) (.node o54 (.node o86 .nil .nil) (.node (b3sub 2) .nil .nil))) (.node o30 (.node o46 (.node o78 (.node (b3sub 26) .nil .nil) .nil) (.node o110 .nil .nil)) (.node o62 (.node o94 .nil .nil) (.node (b3sub 10) .nil .nil)))))))
noncomputable def hv34 (P : Params) : BT := (.node (boot_o_0 P) (.node (boot_o_1 P) (.node (o3 (.str "cpy313.stringprep" 348) 25 26 P) (.node (boot_o_7 P) (.node o15 (.node o31 (.node o63 (.node (b3sub 11) .nil .nil) .nil) (.node o95 .nil .nil)) (.node o47 (.node o79 (.node (b3sub 27) .nil .nil) .nil) (.node o111 .nil .nil))) (.node o23 (.node o39 (.node o71 (.node (b3sub 19) .nil .nil) .nil) (.node o103 .nil .nil)) (.node o55 (.node o87 .nil .nil) (.node (b3sub 3) .nil .nil)))) (.node o11 (.node o19 (.node o35 (.node o67 (.node (b3sub 15) .nil .nil) .nil) (.node o99 .nil .nil)) (.node o51 (.node o83 (.node (b3sub 31) .nil .nil) .nil) (.node o115 .nil .nil))) (.node o27 (.node o43 (.node o75 (.node (b3sub 23) .nil .nil) .nil) (.node o107 .nil .nil)) (.node o59 (.node o91 .nil .nil) (.node (b3sub 7) .nil .nil))))) (.node (boot_o_5 P) (.node (boot_o_9 P) (.node o17 (.node o33 (.node o65 (.node (b3sub 13) .nil .nil) .nil) (.node o97 .nil .nil)) (.node o49 (.node (o81 P) (.node (b3sub 29) .nil .nil) .nil) (.node o113 .nil .nil))) (.node o25 (.node o41 (.node o73 (.node (b3sub 21) .nil .nil) .nil) (.node (o105 P) .nil .nil)) (.node o57 (.node o89 .nil .nil) (.node (b3sub 5) .nil .nil)))) (.node o13 (.node o21 (.node o37 (.node o69 (.node (b3sub 17) .nil .nil) .nil) (.node o101 .nil .nil)) (.node o53 (.node o85 (.node (b3sub 33) .nil .nil) .nil) (.node (b3sub 1) .nil .nil))) (.node o29 (.node o45 (.node o77 (.node (b3sub 25) .nil .nil) .nil) (.node o109 .nil .nil)) (.node o61 (.node o93 .nil .nil) (.node (b3sub 9) .nil .nil)))))) (.node (boot_o_2 P) (.node (boot_o_4 P) (.node (boot_o_8 P) (.node o16 (.node o32 (.node o64 (.node (b3sub 12) .nil .nil) .nil) (.node o96 .nil .nil)) (.node o48 (.node o80 (.node (b3sub 28) .nil .nil) .nil) (.node o112 .nil .nil))) (.node o24 (.node o40 (.node (o72 P) (.node (b3sub 20) .nil .nil) .nil) (.node o104 .nil .nil)) (.node o56 (.node o88 .nil .nil) (.node (b3sub 4) .nil .nil)))) (.node (o12 36) (.node o20 (.node o36 (.node o68 (.node (b3sub 16) .nil .nil) .nil) (.node o100 .nil .nil)) (.node o52 (.node o84 (.node (b3sub 32) .nil .nil) .nil) (.node (b3main 33) .nil .nil))) (.node o28 (.node o44 (.node o76 (.node (b3sub 24) .nil .nil) .nil) (.node o108 .nil .nil)) (.node o60 (.node o92 .nil .nil) (.node (b3sub 8) .nil .nil))))) (.node (boot_o_6 P) (.node (boot_o_10 P) (.node o18 (.node o34 (.node o66 (.node (b3sub 14) .nil .nil) .nil) (.node o98 .nil .nil)) (.node o50 (.node o82 (.node (b3sub 30) .nil .nil) .nil) (.node o114 .nil .nil))) (.node o26 (.node o42 (.node o74 (.node (b3sub 22) .nil .nil) .nil) (.node o106 .nil .nil)) (.node o58 (.node (o90 P) .nil .nil) (.node (b3sub 6) .nil .nil)))) (.node o14 (.node o22 (.node o38 (.node o70 (.node (b3sub 18) .nil .nil) .nil) (.node o102 .nil .nil)) (.node o54 (.node o86 .nil .nil) (.node (b3sub 2) .nil .nil))) (.node o30 (.node o46 (.node o78 (.node (b3sub 26) .nil .nil) .nil) (.node o110 .nil .nil)) (.node o62 (.node o94 .nil .nil) (.node (b3sub 10) .nil .nil)))))))
noncomputable def hv35 (P : Params) : BT := (.node (boot_o_0 P) (.node (boot_o_1 P) (.node (o3 (.str "cpy313.stringprep" 348) 25 26 P) (.node (boot_o_7 P) (.node o15 (.node o31 (.node o63 (.node (b3sub 11) .nil .nil) .nil) (.node o95 .nil .nil)) (.node o47 (.node o79 (.node (b3sub 27) .nil .nil) .nil) (.node o111 .nil .nil))) (.node o23 (.node o39 (.node o71 (.node (b3sub 19) .nil .nil) .nil) (.node o103 .nil .nil)) (.node o55 (.node o87 .nil .nil) (.node (b3sub 3) .nil .nil)))) (.node o11 (.node o19 (.node o35 (.node o67 (.node (b3sub 15) .nil .nil) .nil) (.node o99 .nil .nil)) (.node o51 (.node o83 (.node (b3sub 31) .nil .nil) .nil) (.node o115 .nil .nil))) (.node o27 (.node o43 (.node o75 (.node (b3sub 23) .nil .nil) .nil) (.node o107 .nil .nil)) (.node o59 (.node o91 .nil .nil) (.node (b3sub 7) .nil .nil))))) (.node (boot_o_5 P) (.node (boot_o_9 P) (.node o17 (.node o33 (.node o65 (.node (b3sub 13) .nil .nil) .nil) (.node o97 .nil .nil)) (.node o49 (.node (o81 P) (.node (b3sub 29) .nil .nil) .nil) (.node o113 .nil .nil))) (.node o25 (.node o41 (.node o73 (.node (b3sub 21) .nil .nil) .nil) (.node (o105 P) .nil .nil)) (.node o57 (.node o89 .nil .nil) (.node (b3sub 5) .nil .nil)))) (.node o13 (.node o21 (.node o37 (.node o69 (.node (b3sub 17) .nil .nil) .nil) (.node o101 .nil .nil)) (.node o53 (.node o85 (.node (b3sub 33) .nil .nil) .nil) (.node (b3sub 1) .nil .nil))) (.node o29 (.node o45 (.node o77 (.node (b3sub 25) .nil .nil) .nil) (.node o109 .nil .nil)) (.node o61 (.node o93 .nil .nil) (.node (b3sub 9) .nil .nil)))))) (.node (boot_o_2 P) (.node (boot_o_4 P) (.node (boot_o_8 P) (.node o16 (.node o32 (.node o64 (.node (b3sub 12) .nil .nil) .nil) (.node o96 .nil .nil)) (.node o48 (.node o80 (.node (b3sub 28) .nil .nil) .nil) (.node o112 .nil .nil))) (.node o24 (.node o40 (.node (o72 P) (.node (b3sub 20) .nil .nil) .nil) (.node o104 .nil .nil)) (.node o56 (.node o88 .nil .nil) (.node (b3sub 4) .nil .nil)))) (.node (o12 36) (.node o20 (.node o36 (.node o68 (.node (b3sub 16) .nil .nil) .nil) (.node o100 .nil .nil)) (.node o52 (.node o84 (.node (b3sub 32) .nil .nil) .nil) (.node (b3main 34) .nil .nil))) (.node o28 (.node o44 (.node o76 (.node (b3sub 24) .nil .nil) .nil) (.node o108 .nil .nil)) (.node o60 (.node o92 .nil .nil) (.node (b3sub 8) .nil .nil))))) (.node (boot_o_6 P) (.node (boot_o_10 P) (.node o18 (.node o34 (.node o66 (.node (b3sub 14) .nil .nil) .nil) (.node o98 .nil .nil)) (.node o50 (.node o82 (.node (b3sub 30) .nil .nil) .nil) (.node o114 .nil .nil))) (.node o26 (.node o42 (.node o74 (.node (b3sub 22) .nil .nil) .nil) (.node o106 .nil .nil)) (.node o58 (.node (o90 P) .nil .nil) (.node (b3sub 6) .nil .nil)))) (.node o14 (.node o22 (.node o38 (.node o70 (.node (b3sub 18) .nil .nil) .nil) (.node o102 .nil .nil)) (.node o54 (.node o86 (.node (b3sub 34) .nil .nil) .nil) (.node (b3sub 2) .nil .nil))) (.node o30 (.node o46 (.node o78 (.node (b3sub 26) .nil .nil) .nil) (.node o110 .nil .nil)) (.node o62 (.node o94 .nil .nil) (.node (b3sub 10) .nil .nil)))))))
noncomputable def hv36 (P : Params) : BT := (.node (boot_o_0 P) (.node (boot_o_1 P) (.node (o3 (.str "cpy313.stringprep" 348) 25 26 P) (.node (boot_o_7 P) (.node o15 (.node o31 (.node o63 (.node (b3sub 11) .nil .nil) .nil) (.node o95 .nil .nil)) (.node o47 (.node o79 (.node (b3sub 27) .nil .nil) .nil) (.node o111 .nil .nil))) (.node o23 (.node o39 (.node o71 (.node (b3sub 19) .nil .nil) .nil) (.node o103 .nil .nil)) (.node o55 (.node o87 (.node (b3sub 35) .nil .nil) .nil) (.node (b3sub 3) .nil .nil)))) (.node o11 (.node o19 (.node o35 (.node o67 (.node (b3sub 15) .nil .nil) .nil) (.node o99 .nil .nil)) (.node o51 (.node o83 (.node (b3sub 31) .nil .nil) .nil) (.node o115 .nil .nil))) (.node o27 (.node o43 (.node o75 (.node (b3sub 23) .nil .nil) .nil) (.node o107 .nil .nil)) (.node o59 (.node o91 .nil .nil) (.node (b3sub 7) .nil .nil))))) (.node (boot_o_5 P) (.node (boot_o_9 P) (.node o17 (.node o33 (.node o65 (.node (b3sub 13) .nil .nil) .nil) (.node o97 .nil .nil)) (.node o49 (.node (o81 P) (.node (b3sub 29) .nil .nil) .nil) (.node o113 .nil .nil))) (.node o25 (.node o41 (.node o73 (.node (b3sub 21) .nil .nil) .nil) (.node (o105 P) .nil .nil)) (.node o57 (.node o89 .nil .nil) (.node (b3sub 5) .nil .nil)))) (.node o13 (.node o21 (.node o37 (.node o69 (.node (b3sub 17) .nil .nil) .nil) (.node o101 .nil .nil)) (.node o53 (.node o85 (.node (b3sub 33) .nil .nil) .nil) (.node (b3sub 1) .nil .nil))) (.node o29 (.node o45 (.node o77 (.node (b3sub 25) .nil .nil) .nil) (.node o109 .nil .nil)) (.node o61 (.node o93 .nil .nil) (.node (b3sub 9) .nil .nil)))))) (.node (boot_o_2 P) (.node (boot_o_4 P) (.node (boot_o_8 P) (.node o16 (.node o32 (.node o64 (.node (b3sub 12) .nil .nil) .nil) (.node o96 .nil .nil)) (.node o48 (.node o80 (.node (b3sub 28) .nil .nil) .nil) (.node o112 .nil .nil))) (.node o24 (.node o40 (.node (o72 P) (.node (b3sub 20) .nil .nil) .nil) (.node o104 .nil .nil)) (.node o56 (.node o88 .nil .nil) (.node (b3sub 4) .nil .nil)))) (.node (o12 36) (.node o20 (.node o36 (.node o68 (.node (b3sub 16) .nil .nil) .nil) (.node o100 .nil .nil)) (.node o52 (.node o84 (.node (b3sub 32) .nil .nil) .nil) (.node (b3main 35) .nil .nil))) (.node o28 (.node o44 (.node o76 (.node (b3sub 24) .nil .nil) .nil) (.node o108 .nil .nil)) (.node o60 (.node o92 .nil .nil) (.node (b3sub 8) .nil .nil))))) (.node (boot_o_6 P) (.node (boot_o_10 P) (.node o18 (.node o34 (.node o66 (.node (b3sub 14) .nil .nil) .nil) (.node o98 .nil .nil)) (.node o50 (.node o82 (.node (b3sub 30) .nil .nil) .nil) (.node o114 .nil .nil))) (.node o26 (.node o42 (.node o74 (.node (b3sub 22) .nil .nil) .nil) (.node o106 .nil .nil)) (.node o58 (.node (o90 P) .nil .nil) (.node (b3sub 6) .nil .nil)))) (.node o14 (.node o22 (.node o38 (.node o70 (.node (b3sub 18) .nil .nil) .nil) (.node o102 .nil .nil)) (.node o54 (.node o86 (.node (b3sub 34) .nil .nil) .nil) (.node (b3sub 2) .nil .nil))) (.node o30 (.node o46 (.node o78 (.node (b3sub 26) .nil .nil) .nil) (.node o110 .nil .nil)) (.node o62 (.node o94 .nil .nil) (.node (b3sub 10) .nil .nil)))))))
noncomputable def hv37 (P : Params) : BT := (.node (boot_o_0 P) (.node (boot_o_1 P) (.node (o3 (.str "cpy313.stringprep" 348) 25 26 P) (.node (boot_o_7 P) (.node o15 (.node o31 (.node o63 (.node (b3sub 11) .nil .nil) .nil) (.node o95 .nil .nil)) (.node o47 (.node o79 (.node (b3sub 27) .nil .nil) .nil) (.node o111 .nil .nil))) (.node o23 (.node o39 (.node o71 (.node (b3sub 19) .nil .nil) .nil) (.node o103 .nil .nil)) (.node o55 (.node o87 (.node (b3sub 35) .nil .nil) .nil) (.node (b3sub 3) .nil .nil)))) (.node o11 (.node o19 (.node o35 (.node o67 (.node (b3sub 15) .nil .nil) .nil) (.node o99 .nil .nil)) (.node o51 (.node o83 (.node (b3sub 31) .nil .nil) .nil) (.node o115 .nil .nil))) (.node o27 (.node o43 (.node o75 (.node (b3sub 23) .nil .nil) .nil) (.node o107 .nil .nil)) (.node o59 (.node o91 .nil .nil) (.node (b3sub 7) .nil .nil))))) (.node (boot_o_5 P) (.node (boot_o_9 P) (.node o17 (.node o33 (.node o65 (.node (b3sub 13) .nil .nil) .nil) (.node o97 .nil .nil)) (.node o49 (.node (o81 P) (.node (b3sub 29) .nil .nil) .nil) (.node o113 .nil .nil))) (.node o25 (.node o41 (.node o73 (.node (b3sub 21) .nil .nil) .nil) (.node (o105 P) .nil .nil)) (.node o57 (.node o89 .nil .nil) (.node (b3sub 5) .nil .nil)))) (.node o13 (.node o21 (.node o37 (.node o69 (.node (b3sub 17) .nil .nil) .nil) (.node o101 .nil .nil)) (.node o53 (.node o85 (.node (b3sub 33) .nil .nil) .nil) (.node (b3sub 1) .nil .nil))) (.node o29 (.node o45 (.node o77 (.node (b3sub 25) .nil .nil) .nil) (.node o109 .nil .nil)) (.node o61 (.node o93 .nil .nil) (.node (b3sub 9) .nil .nil)))))) (.node (boot_o_2 P) (.node (boot_o_4 P) (.node (boot_o_8 P) (.node o16 (.node o32 (.node o64 (.node (b3sub 12) .nil .nil) .nil) (.node o96 .nil .nil)) (.node o48 (.node o80 (.node (b3sub 28) .nil .nil) .nil) (.node o112 .nil .nil))) (.node o24 (.node o40 (.node (o72 P) (.node (b3sub 20) .nil .nil) .nil) (.node o104 .nil .nil)) (.node o56 (.node o88 (.node (b3sub 36) .nil .nil) .nil) (.node (b3sub 4) .nil .nil)))) (.node (o12 36) (.node o20 (.node o36 (.node o68 (.node (b3sub 16) .nil .nil) .nil) (.node o100 .nil .nil)) (.node o52 (.node o84 (.node (b3sub 32) .nil .nil) .nil) (.node (b3main 36) .nil .nil))) (.node o28 (.node o44 (.node o76 (.node (b3sub 24) .nil .nil) .nil) (.node o108 .nil .nil)) (.node o60 (.node o92 .nil .nil) (.node (b3sub 8) .nil .nil))))) (.node (boot_o_6 P) (.node (boot_o_10 P) (.node o18 (.node o34 (.node o66 (.node (b3sub 14) .nil .nil) .nil) (.node o98 .nil .nil)) (.node o50 (.node o82 (.node (b3sub 30) .nil .nil) .nil) (.node o114 .nil .nil))) (.node o26 (.node o42 (.node o74 (.node (b3sub 22) .nil .nil) .nil) (.node o106 .nil .nil)) (.node o58 (.node (o90 P) .nil .nil) (.node (b3sub 6) .nil .nil)))) (.node o14 (.node o22 (.node o38 (.node o70 (.node (b3sub 18) .nil .nil) .nil) (.node o102 .nil .nil)) (.node o54 (.node o86 (.node (b3sub 34) .nil .nil) .nil) (.node (b3sub 2) .nil .nil))) (.node o30 (.node o46 (.node o78 (.node (b3sub 26) .nil .nil) .nil) (.node o110 .nil .nil)) (.node o62 (.node o94 .nil .nil) (.node (b3sub 10) .nil .nil)))))))
noncomputable def hv38 (P : Params) : BT := (.node (boot_o_0 P) (.node (boot_o_1 P) (.node (o3 (.str "cpy313.stringprep" 348) 25 26 P) (.node (boot_o_7 P) (.node o15 (.node o31 (.node o63 (.node (b3sub 11) .nil .nil) .nil) (.node o95 .nil .nil)) (.node o47 (.node o79 (.node (b3sub 27) .nil .nil) .nil) (.node o111 .nil .nil))) (.node o23 (.node o39 (.node o71 (.node (b3sub 19) .nil .nil) .nil) (.node o103 .nil .nil)) (.node o55 (.node o87 (.node (b3sub 35) .nil .nil) .nil) (.node (b3sub 3) .nil .nil)))) (.node o11 (.node o19 (.node o35 (.node o67 (.node (b3sub 15) .nil .nil) .nil) (.node o99 .nil .nil)) (.node o51 (.node o83 (.node (b3sub 31) .nil .nil) .nil) (.node o115 .nil .nil))) (.node o27 (.node o43 (.node o75 (.node (b3sub 23) .nil .nil) .nil) (.node o107 .nil .nil)) (.node o59 (.node o91 .nil .nil) (.node (b3sub 7) .nil .nil))))) (.node (boot_o_5 P) (.node (boot_o_9 P) (.node o17 (.node o33 (.node o65 (.node (b3sub 13) .nil .nil) .nil) (.node o97 .nil .nil)) (.node o49 (.node (o81 P) (.node (b3sub 29) .nil .nil) .nil) (.node o113 .nil .nil))) (.node o25 (.node o41 (.node o73 (.node (b3sub 21) .nil .nil) .nil) (.node (o105 P) .nil .nil)) (.node o57 (.node o89 (.node (b3sub 37) .nil .nil) .nil) (.node (b3sub 5) .nil .nil)))) (.node o13 (.node o21 (.node o37 (.node o69 (.node (b3sub 17) .nil .nil) .nil) (.node o101 .nil .nil)) (.node o53 (.node o85 (.node (b3sub 33) .nil .nil) .nil) (.node (b3sub 1) .nil .nil))) (.node o29 (.node o45 (.node o77 (.node (b3sub 25) .nil .nil) .nil) (.node o109 .nil .nil)) (.node o61 (.node o93 .nil .nil) (.node (b3sub 9) .nil .nil)))))) (.node (boot_o_2 P) (.node (boot_o_4 P) (.node (boot_o_8 P) (.node o16 (.node o32 (.node o64 (.node (b3sub 12) .nil .nil) .nil) (.node o96 .nil .nil)) (.node o48 (.node o80 (.node (b3sub 28) .nil .nil) .nil) (.node o112 .nil .nil))) (.node o24 (.node o40 (.node (o72 P) (.node (b3sub 20) .nil .nil) .nil) (.node o104 .nil .nil)) (.node o56 (.node o88 (.node (b3sub 36) .nil .nil) .nil) (.node (b3sub 4) .nil .nil)))) (.node (o12 36) (.node o20 (.node o36 (.node o68 (.node (b3sub 16) .nil .nil) .nil) (.node o100 .nil .nil)) (.node o52 (.node o84 (.node (b3sub 32) .nil .nil) .nil) (.node (b3main 37) .nil .nil))) (.node o28 (.node o44 (.node o76 (.node (b3sub 24) .nil .nil) .nil) (.node o108 .nil .nil)) (.node o60 (.node o92 .nil .nil) (.node (b3sub 8) .nil .nil))))) (.node (boot_o_6 P) (.node (boot_o_10 P) (.node o18 (.node o34 (.node o66 (.node (b3sub 14) .nil .nil) .nil) (.node o98 .nil .nil)) (.node o50 (.node o82 (.node (b3sub 30) .nil .nil) .nil) (.node o114 .nil .nil))) (.node o26 (.node o42 (.node o74 (.node (b3sub 22) .nil .nil) .nil) (.node o106 .nil .nil)) (.node o58 (.node (o90 P) .nil .nil) (.node (b3sub 6) .nil .nil)))) (.node o14 (.node o22 (.node o38 (.node o70 (.node (b3sub 18) .nil .nil) .nil) (.node o102 .nil .nil)) (.node o54 (.node o86 (.node (b3sub 34) .nil .nil) .nil) (.node (b3sub 2) .nil .nil))) (.node o30 (.node o46 (.node o78 (.node (b3sub 26) .nil .nil) .nil) (.node o110 .nil .nil)) (.node o62 (.node o94 .nil .nil) (.node (b3sub 10) .nil .nil)))))))
theorem hc0 (w : World) : (fun os => segRunT treeTable hpw w 11 (some (.ref 6)) 1 600 (hst ht21 116 417 w os) ⟨(loopC PySem.W.Fast.tw12456147031677567982 ddp.1.1 ((items21.drop 0).take 17) (none, [])).wrap (fun a => .pure (.done (resC a))) deadEnd id id, hcode, dp21, [topFrame hq]⟩) = fun os => some (.ret (.ref 116), hst hv1 117 468 w os, hcode, dp21) := by
  rw [PySem.W.Fast.te10110043849684766642, PySem.W.Fast.te14364793385576792824]; kernel_rfl
theorem hc1 (w : World) : (fun os => segRunT treeTable hpw w 11 (some (.ref 6)) 1 600 (hst hv1 117 468 w os) ⟨(loopC PySem.W.Fast.tw12456147031677567982 ddp.1.1 ((items21.drop 17).take 17) (some 116, [])).wrap (fun a => .pure (.done (resC a))) deadEnd id id, hcode, dp21, [topFrame hq]⟩) = fun os => some (.ret (.ref 116), hst hv2 118 519 w os, hcode, dp21) := by
  rw [PySem.W.Fast.te10110043849684766642, PySem.W.Fast.te14364793385576792824]; kernel_rfl
theorem hc2 (w : World) : (fun os => segRunT treeTable hpw w 11 (some (.ref 6)) 1 600 (hst hv2 118 519 w os) ⟨(loopC PySem.W.Fast.tw12456147031677567982 ddp.1.1 ((items21.drop 34).take 17) (some 116, [])).wrap (fun a => .pure (.done (resC a))) deadEnd id id, hcode, dp21, [topFrame hq]⟩) = fun os => some (.ret (.ref 116), hst hv3 119 570 w os, hcode, dp21) := by
  rw [PySem.W.Fast.te10110043849684766642, PySem.W.Fast.te14364793385576792824]; kernel_rfl
theorem hc3 (w : World) : (fun os => segRunT treeTable hpw w 11 (some (.ref 6)) 1 600 (hst hv3 119 570 w os) ⟨(loopC PySem.W.Fast.tw12456147031677567982 ddp.1.1 ((items21.drop 51).take 17) (some 116, [])).wrap (fun a => .pure (.done (resC a))) deadEnd id id, hcode, dp21, [topFrame hq]⟩) = fun os => some (.ret (.ref 116), hst hv4 120 621 w os, hcode, dp21) := by
  rw [PySem.W.Fast.te10110043849684766642, PySem.W.Fast.te14364793385576792824]; kernel_rfl
theorem hc4 (w : World) : (fun os => segRunT treeTable hpw w 11 (some (.ref 6)) 1 600 (hst hv4 120 621 w os) ⟨(loopC PySem.W.Fast.tw12456147031677567982 ddp.1.1 ((items21.drop 68).take 17) (some 116, [])).wrap (fun a => .pure (.done (resC a))) deadEnd id id, hcode, dp21, [topFrame hq]⟩) = fun os => some (.ret (.ref 116), hst hv5 121 672 w os, hcode, dp21) := by
  rw [PySem.W.Fast.te10110043849684766642, PySem.W.Fast.te14364793385576792824]; kernel_rfl
theorem hc5 (w : World) : (fun os => segRunT treeTable hpw w 11 (some (.ref 6)) 1 600 (hst hv5 121 672 w os) ⟨(loopC PySem.W.Fast.tw12456147031677567982 ddp.1.1 ((items21.drop 85).take 17) (some 116, [])).wrap (fun a => .pure (.done (resC a))) deadEnd id id, hcode, dp21, [topFrame hq]⟩) = fun os => some (.ret (.ref 116), hst hv6 122 723 w os, hcode, dp21) := by
  rw [PySem.W.Fast.te10110043849684766642, PySem.W.Fast.te14364793385576792824]; kernel_rfl
theorem hc6 (w : World) : (fun os => segRunT treeTable hpw w 11 (some (.ref 6)) 1 600 (hst hv6 122 723 w os) ⟨(loopC PySem.W.Fast.tw12456147031677567982 ddp.1.1 ((items21.drop 102).take 17) (some 116, [])).wrap (fun a => .pure (.done (resC a))) deadEnd id id, hcode, dp21, [topFrame hq]⟩) = fun os => some (.ret (.ref 116), hst hv7 123 774 w os, hcode, dp21) := by
  rw [PySem.W.Fast.te10110043849684766642, PySem.W.Fast.te14364793385576792824]; kernel_rfl
theorem hc7 (w : World) : (fun os => segRunT treeTable hpw w 11 (some (.ref 6)) 1 600 (hst hv7 123 774 w os) ⟨(loopC PySem.W.Fast.tw12456147031677567982 ddp.1.1 ((items21.drop 119).take 17) (some 116, [])).wrap (fun a => .pure (.done (resC a))) deadEnd id id, hcode, dp21, [topFrame hq]⟩) = fun os => some (.ret (.ref 116), hst hv8 124 825 w os, hcode, dp21) := by
  rw [PySem.W.Fast.te10110043849684766642, PySem.W.Fast.te14364793385576792824]; kernel_rfl
theorem hc8 (w : World) : (fun os => segRunT treeTable hpw w 11 (some (.ref 6)) 1 600 (hst hv8 124 825 w os) ⟨(loopC PySem.W.Fast.tw12456147031677567982 ddp.1.1 ((items21.drop 136).take 17) (some 116, [])).wrap (fun a => .pure (.done (resC a))) deadEnd id id, hcode, dp21, [topFrame hq]⟩) = fun os => some (.ret (.ref 116), hst hv9 125 876 w os, hcode, dp21) := by
  rw [PySem.W.Fast.te10110043849684766642, PySem.W.Fast.te14364793385576792824]; kernel_rfl
theorem hc9 (w : World) : (fun os => segRunT treeTable hpw w 11 (some (.ref 6)) 1 600 (hst hv9 125 876 w os) ⟨(loopC PySem.W.Fast.tw12456147031677567982 ddp.1.1 ((items21.drop 153).take 17) (some 116, [])).wrap (fun a => .pure (.done (resC a))) deadEnd id id, hcode, dp21, [topFrame hq]⟩) = fun os => some (.ret (.ref 116), hst hv10 126 927 w os, hcode, dp21) := by
  rw [PySem.W.Fast.te10110043849684766642, PySem.W.Fast.te14364793385576792824]; kernel_rfl
theorem hc10 (w : World) : (fun os => segRunT treeTable hpw w 11 (some (.ref 6)) 1 600 (hst hv10 126 927 w os) ⟨(loopC PySem.W.Fast.tw12456147031677567982 ddp.1.1 ((items21.drop 170).take 17) (some 116, [])).wrap (fun a => .pure (.done (resC a))) deadEnd id id, hcode, dp21, [topFrame hq]⟩) = fun os => some (.ret (.ref 116), hst hv11 127 978 w os, hcode, dp21) := by
  rw [PySem.W.Fast.te10110043849684766642, PySem.W.Fast.te14364793385576792824]; kernel_rfl
theorem hc11 (w : World) : (fun os => segRunT treeTable hpw w 11 (some (.ref 6)) 1 600 (hst hv11 127 978 w os) ⟨(loopC PySem.W.Fast.tw12456147031677567982 ddp.1.1 ((items21.drop 187).take 17) (some 116, [])).wrap (fun a => .pure (.done (resC a))) deadEnd id id, hcode, dp21, [topFrame hq]⟩) = fun os => some (.ret (.ref 116), hst hv12 128 1029 w os, hcode, dp21) := by
  rw [PySem.W.Fast.te10110043849684766642, PySem.W.Fast.te14364793385576792824]; kernel_rfl
theorem hc12 (w : World) : (fun os => segRunT treeTable hpw w 11 (some (.ref 6)) 1 600 (hst hv12 128 1029 w os) ⟨(loopC PySem.W.Fast.tw12456147031677567982 ddp.1.1 ((items21.drop 204).take 17) (some 116, [])).wrap (fun a => .pure (.done (resC a))) deadEnd id id, hcode, dp21, [topFrame hq]⟩) = fun os => some (.ret (.ref 116), hst hv13 129 1080 w os, hcode, dp21) := by
  rw [PySem.W.Fast.te10110043849684766642, PySem.W.Fast.te14364793385576792824]; kernel_rfl
theorem hc13 (w : World) : (fun os => segRunT treeTable hpw w 11 (some (.ref 6)) 1 600 (hst hv13 129 1080 w os) ⟨(loopC PySem.W.Fast.tw12456147031677567982 ddp.1.1 ((items21.drop 221).take 17) (some 116, [])).wrap (fun a => .pure (.done (resC a))) deadEnd id id, hcode, dp21, [topFrame hq]⟩) = fun os => some (.ret (.ref 116), hst hv14 130 1131 w os, hcode, dp21) := by
  rw [PySem.W.Fast.te10110043849684766642, PySem.W.Fast.te14364793385576792824]; kernel_rfl
theorem hc14 (w : World) : (fun os => segRunT treeTable hpw w 11 (some (.ref 6)) 1 600 (hst hv14 130 1131 w os) ⟨(loopC PySem.W.Fast.tw12456147031677567982 ddp.1.1 ((items21.drop 238).take 17) (some 116, [])).wrap (fun a => .pure (.done (resC a))) deadEnd id id, hcode, dp21, [topFrame hq]⟩) = fun os => some (.ret (.ref 116), hst hv15 131 1182 w os, hcode, dp21) := by
  rw [PySem.W.Fast.te10110043849684766642, PySem.W.Fast.te14364793385576792824]; kernel_rfl
theorem hc15 (w : World) : (fun os => segRunT treeTable hpw w 11 (some (.ref 6)) 1 600 (hst hv15 131 1182 w os) ⟨(loopC PySem.W.Fast.tw12456147031677567982 ddp.1.1 ((items21.drop 255).take 17) (some 116, [])).wrap (fun a => .pure (.done (resC a))) deadEnd id id, hcode, dp21, [topFrame hq]⟩) = fun os => some (.ret (.ref 116), hst hv16 132 1233 w os, hcode, dp21) := by
  rw [PySem.W.Fast.te10110043849684766642, PySem.W.Fast.te14364793385576792824]; kernel_rfl
theorem hc16 (w : World) : (fun os => segRunT treeTable hpw w 11 (some (.ref 6)) 1 600 (hst hv16 132 1233 w os) ⟨(loopC PySem.W.Fast.tw12456147031677567982 ddp.1.1 ((items21.drop 272).take 17) (some 116, [])).wrap (fun a => .pure (.done (resC a))) deadEnd id id, hcode, dp21, [topFrame hq]⟩) = fun os => some (.ret (.ref 116), hst hv17 133 1284 w os, hcode, dp21) := by
  rw [PySem.W.Fast.te10110043849684766642, PySem.W.Fast.te14364793385576792824]; kernel_rfl
theorem hc17 (w : World) : (fun os => segRunT treeTable hpw w 11 (some (.ref 6)) 1 600 (hst hv17 133 1284 w os) ⟨(loopC PySem.W.Fast.tw12456147031677567982 ddp.1.1 ((items21.drop 289).take 17) (some 116, [])).wrap (fun a => .pure (.done (resC a))) deadEnd id id, hcode, dp21, [topFrame hq]⟩) = fun os => some (.ret (.ref 116), hst hv18 134 1335 w os, hcode, dp21) := by
  rw [PySem.W.Fast.te10110043849684766642, PySem.W.Fast.te14364793385576792824]; kernel_rfl
theorem hc18 (w : World) : (fun os => segRunT treeTable hpw w 11 (some (.ref 6)) 1 600 (hst hv18 134 1335 w os) ⟨(loopC PySem.W.Fast.tw12456147031677567982 ddp.1.1 ((items21.drop 306).take 17) (some 116, [])).wrap (fun a => .pure (.done (resC a))) deadEnd id id, hcode, dp21, [topFrame hq]⟩) = fun os => some (.ret (.ref 116), hst hv19 135 1386 w os, hcode, dp21) := by
  rw [PySem.W.Fast.te10110043849684766642, PySem.W.Fast.te14364793385576792824]; kernel_rfl
theorem hc19 (w : World) : (fun os => segRunT treeTable hpw w 11 (some (.ref 6)) 1 600 (hst hv19 135 1386 w os) ⟨(loopC PySem.W.Fast.tw12456147031677567982 ddp.1.1 ((items21.drop 323).take 17) (some 116, [])).wrap (fun a => .pure (.done (resC a))) deadEnd id id, hcode, dp21, [topFrame hq]⟩) = fun os => some (.ret (.ref 116), hst hv20 136 1437 w os, hcode, dp21) := by
  rw [PySem.W.Fast.te10110043849684766642, PySem.W.Fast.te14364793385576792824]; kernel_rfl
theorem hc20 (w : World) : (fun os => segRunT treeTable hpw w 11 (some (.ref 6)) 1 600 (hst hv20 136 1437 w os) ⟨(loopC PySem.W.Fast.tw12456147031677567982 ddp.1.1 ((items21.drop 340).take 17) (some 116, [])).wrap (fun a => .pure (.done (resC a))) deadEnd id id, hcode, dp21, [topFrame hq]⟩) = fun os => some (.ret (.ref 116), hst hv21 137 1488 w os, hcode, dp21) := by
  rw [PySem.W.Fast.te10110043849684766642, PySem.W.Fast.te14364793385576792824]; kernel_rfl
theorem hc21 (w : World) : (fun os => segRunT treeTable hpw w 11 (some (.ref 6)) 1 600 (hst hv21 137 1488 w os) ⟨(loopC PySem.W.Fast.tw12456147031677567982 ddp.1.1 ((items21.drop 357).take 17) (some 116, [])).wrap (fun a => .pure (.done (resC a))) deadEnd id id, hcode, dp21, [topFrame hq]⟩) = fun os => some (.ret (.ref 116), hst hv22 138 1539 w os, hcode, dp21) := by
  rw [PySem.W.Fast.te10110043849684766642, PySem.W.Fast.te14364793385576792824]; kernel_rfl
theorem hc22 (w : World) : (fun os => segRunT treeTable hpw w 11 (some (.ref 6)) 1 600 (hst hv22 138 1539 w os) ⟨(loopC PySem.W.Fast.tw12456147031677567982 ddp.1.1 ((items21.drop 374).take 17) (some 116, [])).wrap (fun a => .pure (.done (resC a))) deadEnd id id, hcode, dp21, [topFrame hq]⟩) = fun os => some (.ret (.ref 116), hst hv23 139 1590 w os, hcode, dp21) := by
  rw [PySem.W.Fast.te10110043849684766642, PySem.W.Fast.te14364793385576792824]; kernel_rfl
theorem hc23 (w : World) : (fun os => segRunT treeTable hpw w 11 (some (.ref 6)) 1 600 (hst hv23 139 1590 w os) ⟨(loopC PySem.W.Fast.tw12456147031677567982 ddp.1.1 ((items21.drop 391).take 17) (some 116, [])).wrap (fun a => .pure (.done (resC a))) deadEnd id id, hcode, dp21, [topFrame hq]⟩) = fun os => some (.ret (.ref 116), hst hv24 140 1641 w os, hcode, dp21) := by
  rw [PySem.W.Fast.te10110043849684766642, PySem.W.Fast.te14364793385576792824]; kernel_rfl
theorem hc24 (w : World) : (fun os => segRunT treeTable hpw w 11 (some (.ref 6)) 1 600 (hst hv24 140 1641 w os) ⟨(loopC PySem.W.Fast.tw12456147031677567982 ddp.1.1 ((items21.drop 408).take 17) (some 116, [])).wrap (fun a => .pure (.done (resC a))) deadEnd id id, hcode, dp21, [topFrame hq]⟩) = fun os => some (.ret (.ref 116), hst hv25 141 1692 w os, hcode, dp21) := by
  rw [PySem.W.Fast.te10110043849684766642, PySem.W.Fast.te14364793385576792824]; kernel_rfl
theorem hc25 (w : World) : (fun os => segRunT treeTable hpw w 11 (some (.ref 6)) 1 600 (hst hv25 141 1692 w os) ⟨(loopC PySem.W.Fast.tw12456147031677567982 ddp.1.1 ((items21.drop 425).take 17) (some 116, [])).wrap (fun a => .pure (.done (resC a))) deadEnd id id, hcode, dp21, [topFrame hq]⟩) = fun os => some (.ret (.ref 116), hst hv26 142 1743 w os, hcode, dp21) := by
  rw [PySem.W.Fast.te10110043849684766642, PySem.W.Fast.te14364793385576792824]; kernel_rfl
theorem hc26 (w : World) : (fun os => segRunT treeTable hpw w 11 (some (.ref 6)) 1 600 (hst hv26 142 1743 w os) ⟨(loopC PySem.W.Fast.tw12456147031677567982 ddp.1.1 ((items21.drop 442).take 17) (some 116, [])).wrap (fun a => .pure (.done (resC a))) deadEnd id id, hcode, dp21, [topFrame hq]⟩) = fun os => some (.ret (.ref 116), hst hv27 143 1794 w os, hcode, dp21) := by
  rw [PySem.W.Fast.te10110043849684766642, PySem.W.Fast.te14364793385576792824]; kernel_rfl
theorem hc27 (w : World) : (fun os => segRunT treeTable hpw w 11 (some (.ref 6)) 1 600 (hst hv27 143 1794 w os) ⟨(loopC PySem.W.Fast.tw12456147031677567982 ddp.1.1 ((items21.drop 459).take 17) (some 116, [])).wrap (fun a => .pure (.done (resC a))) deadEnd id id, hcode, dp21, [topFrame hq]⟩) = fun os => some (.ret (.ref 116), hst hv28 144 1845 w os, hcode, dp21) := by
  rw [PySem.W.Fast.te10110043849684766642, PySem.W.Fast.te14364793385576792824]; kernel_rfl
theorem hc28 (w : World) : (fun os => segRunT treeTable hpw w 11 (some (.ref 6)) 1 600 (hst hv28 144 1845 w os) ⟨(loopC PySem.W.Fast.tw12456147031677567982 ddp.1.1 ((items21.drop 476).take 17) (some 116, [])).wrap (fun a => .pure (.done (resC a))) deadEnd id id, hcode, dp21, [topFrame hq]⟩) = fun os => some (.ret (.ref 116), hst hv29 145 1896 w os, hcode, dp21) := by
  rw [PySem.W.Fast.te10110043849684766642, PySem.W.Fast.te14364793385576792824]; kernel_rfl
theorem hc29 (w : World) : (fun os => segRunT treeTable hpw w 11 (some (.ref 6)) 1 600 (hst hv29 145 1896 w os) ⟨(loopC PySem.W.Fast.tw12456147031677567982 ddp.1.1 ((items21.drop 493).take 17) (some 116, [])).wrap (fun a => .pure (.done (resC a))) deadEnd id id, hcode, dp21, [topFrame hq]⟩) = fun os => some (.ret (.ref 116), hst hv30 146 1947 w os, hcode, dp21) := by
  rw [PySem.W.Fast.te10110043849684766642, PySem.W.Fast.te14364793385576792824]; kernel_rfl
theorem hc30 (w : World) : (fun os => segRunT treeTable hpw w 11 (some (.ref 6)) 1 600 (hst hv30 146 1947 w os) ⟨(loopC PySem.W.Fast.tw12456147031677567982 ddp.1.1 ((items21.drop 510).take 17) (some 116, [])).wrap (fun a => .pure (.done (resC a))) deadEnd id id, hcode, dp21, [topFrame hq]⟩) = fun os => some (.ret (.ref 116), hst hv31 147 1998 w os, hcode, dp21) := by
  rw [PySem.W.Fast.te10110043849684766642, PySem.W.Fast.te14364793385576792824]; kernel_rfl
theorem hc31 (w : World) : (fun os => segRunT treeTable hpw w 11 (some (.ref 6)) 1 600 (hst hv31 147 1998 w os) ⟨(loopC PySem.W.Fast.tw12456147031677567982 ddp.1.1 ((items21.drop 527).take 17) (some 116, [])).wrap (fun a => .pure (.done (resC a))) deadEnd id id, hcode, dp21, [topFrame hq]⟩) = fun os => some (.ret (.ref 116), hst hv32 148 2049 w os, hcode, dp21) := by
  rw [PySem.W.Fast.te10110043849684766642, PySem.W.Fast.te14364793385576792824]; kernel_rfl
theorem hc32 (w : World) : (fun os => segRunT treeTable hpw w 11 (some (.ref 6)) 1 600 (hst hv32 148 2049 w os) ⟨(loopC PySem.W.Fast.tw12456147031677567982 ddp.1.1 ((items21.drop 544).take 17) (some 116, [])).wrap (fun a => .pure (.done (resC a))) deadEnd id id, hcode, dp21, [topFrame hq]⟩) = fun os => some (.ret (.ref 116), hst hv33 149 2100 w os, hcode, dp21) := by
  rw [PySem.W.Fast.te10110043849684766642, PySem.W.Fast.te14364793385576792824]; kernel_rfl
theorem hc33 (w : World) : (fun os => segRunT treeTable hpw w 11 (some (.ref 6)) 1 600 (hst hv33 149 2100 w os) ⟨(loopC PySem.W.Fast.tw12456147031677567982 ddp.1.1 ((items21.drop 561).take 17) (some 116, [])).wrap (fun a => .pure (.done (resC a))) deadEnd id id, hcode, dp21, [topFrame hq]⟩) = fun os => some (.ret (.ref 116), hst hv34 150 2151 w os, hcode, dp21) := by
  rw [PySem.W.Fast.te10110043849684766642, PySem.W.Fast.te14364793385576792824]; kernel_rfl
theorem hc34 (w : World) : (fun os => segRunT treeTable hpw w 11 (some (.ref 6)) 1 600 (hst hv34 150 2151 w os) ⟨(loopC PySem.W.Fast.tw12456147031677567982 ddp.1.1 ((items21.drop 578).take 17) (some 116, [])).wrap (fun a => .pure (.done (resC a))) deadEnd id id, hcode, dp21, [topFrame hq]⟩) = fun os => some (.ret (.ref 116), hst hv35 151 2202 w os, hcode, dp21) := by
  rw [PySem.W.Fast.te10110043849684766642, PySem.W.Fast.te14364793385576792824]; kernel_rfl
theorem hc35 (w : World) : (fun os => segRunT treeTable hpw w 11 (some (.ref 6)) 1 600 (hst hv35 151 2202 w os) ⟨(loopC PySem.W.Fast.tw12456147031677567982 ddp.1.1 ((items21.drop 595).take 17) (some 116, [])).wrap (fun a => .pure (.done (resC a))) deadEnd id id, hcode, dp21, [topFrame hq]⟩) = fun os => some (.ret (.ref 116), hst hv36 152 2253 w os, hcode, dp21) := by
  rw [PySem.W.Fast.te10110043849684766642, PySem.W.Fast.te14364793385576792824]; kernel_rfl
theorem hc36 (w : World) : (fun os => segRunT treeTable hpw w 11 (some (.ref 6)) 1 600 (hst hv36 152 2253 w os) ⟨(loopC PySem.W.Fast.tw12456147031677567982 ddp.1.1 ((items21.drop 612).take 17) (some 116, [])).wrap (fun a => .pure (.done (resC a))) deadEnd id id, hcode, dp21, [topFrame hq]⟩) = fun os => some (.ret (.ref 116), hst hv37 153 2304 w os, hcode, dp21) := by
  rw [PySem.W.Fast.te10110043849684766642, PySem.W.Fast.te14364793385576792824]; kernel_rfl
theorem hc37 (w : World) : (fun os => segRunT treeTable hpw w 11 (some (.ref 6)) 1 600 (hst hv37 153 2304 w os) ⟨(loopC PySem.W.Fast.tw12456147031677567982 ddp.1.1 ((items21.drop 629).take 17) (some 116, [])).wrap (fun a => .pure (.done (resC a))) deadEnd id id, hcode, dp21, [topFrame hq]⟩) = fun os => some (.ret (.ref 116), hst hv38 154 2355 w os, hcode, dp21) := by
  rw [PySem.W.Fast.te10110043849684766642, PySem.W.Fast.te14364793385576792824]; kernel_rfl
theorem wrap_bind {α β γ : Type} (x : Sem α) (f : α → Sem β) (Kf : β → Sem γ) (Hf : Value → Sem γ) : (x >>= f).wrap Kf Hf id id = x.wrap (fun a => (f a).wrap Kf Hf id id) Hf id id := by
  rw [Sem.bind_eq_wrap', Sem.wrap_wrap]; rfl
theorem seg_bind {w : World} {α β : Type} {x : Sem α} {f : α → Sem β} {Kf : β → Sem Fin} {Hf : Value → Sem Fin} {res : α → Flow} {fl : Flow} {a0 : α} {n N : Nat} {s s' r : Shared} {c c' : Code} {pos p' q : Pos}
    (h : segRun treeTable hpw w 11 (some (.ref 6)) 1 n s ⟨x.wrap (fun a => .pure (.done (res a))) deadEnd id id, c, pos, [topFrame q]⟩ = some (fl, s', c', p')) (inj : ∀ a, res a = fl → a = a0)
    (k : topRun treeTable hpw w 11 (some (.ref 6)) N s' ⟨(f a0).wrap Kf Hf id id, c', p', [topFrame q]⟩ = some r) : topRun treeTable hpw w 11 (some (.ref 6)) (n + N) s ⟨(x >>= f).wrap Kf Hf id id, c, pos, [topFrame q]⟩ = some r := by
  obtain ⟨a, ha, hN⟩ := seg_top (res := res) (K' := fun a => (f a).wrap Kf Hf id id) (H' := Hf) (gd := id) (lv := id) (B := [topFrame q]) rfl n s ⟨x.wrap (fun a => .pure (.done (res a))) deadEnd id id, c, pos, [topFrame q]⟩ ⟨x.wrap (fun a => (f a).wrap Kf Hf id id) Hf id id, c, pos, [topFrame q]⟩ _ _ _ _ ⟨rfl, rfl, .inl ⟨rfl, rfl, x, rfl, rfl⟩⟩ h
  rw [wrap_bind]
  have e := inj a ha
  subst e
  exact hN N r k
theorem seg_last {w : World} {x : Sem Flow} {Kf : Flow → Sem Fin} {Hf : Value → Sem Fin} {n N : Nat} {s s' r : Shared} {c c' : Code} {pos p' q : Pos}
    (h : segRun treeTable hpw w 11 (some (.ref 6)) 1 n s ⟨x.wrap doneF deadEnd id id, c, pos, [topFrame q]⟩ = some (.next, s', c', p')) (k : topRun treeTable hpw w 11 (some (.ref 6)) N s' ⟨Kf .next, c', p', [topFrame q]⟩ = some r) : topRun treeTable hpw w 11 (some (.ref 6)) (n + N) s ⟨x.wrap Kf Hf id id, c, pos, [topFrame q]⟩ = some r := by
  obtain ⟨a, ha, hN⟩ := seg_top (res := id) (K' := Kf) (H' := Hf) (gd := id) (lv := id) (B := [topFrame q]) rfl n s ⟨x.wrap doneF deadEnd id id, c, pos, [topFrame q]⟩ ⟨x.wrap Kf Hf id id, c, pos, [topFrame q]⟩ _ _ _ _ ⟨rfl, rfl, .inl ⟨rfl, rfl, x, rfl, rfl⟩⟩ h
  obtain rfl : a = .next := ha
  exact hN N r k
theorem forIn_loopC (f : ITEM → ACC → Sem (ForInStep ACC)) : ∀ (l1 l2 : List ITEM) (b : ACC), forIn (l1 ++ l2) b f = loopC PySem.Sem.instMonad f l1 b >>= fun r => match r with
    | .done b => pure b
    | .yield b => forIn l2 b f
  | [], l2, b => by
    rw [List.nil_append]
    unfold loopC
    rw [pure_bind]
  | x :: xs, l2, b => by
    rw [List.cons_append, List.forIn_cons]
    unfold loopC
    rw [bind_assoc]
    congr 1
    funext r
    cases r with
    | done b => rw [pure_bind]
    | yield b => exact forIn_loopC f xs l2 b
theorem mon_cv {m m' : Monad Sem} (e : m = m') (items : List ITEM) (f : ITEM → ACC → Sem (ForInStep ACC)) (g : ACC → Sem Value) : (letI : Monad Sem := m; (forIn items ((none, []) : ACC) f) >>= g) = (letI : Monad Sem := m'; (forIn items ((none, []) : ACC) f) >>= g) := by
  subst e; rfl
theorem dd_eq (items : List ITEM) : dictDisplay items = (forIn items ((none, []) : ACC) ddp.1.1) >>= ddp.1.2 := by
  exact (congrFun (PySem.W.Fast.te11216187645035866516.trans ddx.2) items).trans ((ddp.2 items).trans (mon_cv PySem.W.Fast.te12456147031677567982.symm items ddp.1.1 ddp.1.2))
noncomputable def e21 : Sem Bool := standAt tp21 >>= fun _ => swapsWithSole tk21 tv21 tp21.line henv
noncomputable def v21 (v : Value) : Sem Flow := swappedStores tk21 tv21 henv >>= fun sw => assignStores henv v sw ((assignEach tk21 henv).map (·.2))
noncomputable def gv21 (a : ACC) : Sem Flow := ddp.1.2 a >>= v21
theorem st21_eq : stAt 21 = .Assign tk21 (.Dict dk21 dv21 dp21) tp21 := by kernel_rfl
theorem tv21_eq : tv21 = .Dict dk21 dv21 dp21 := by kernel_rfl
theorem ex21 : ∃ C : Bool → Sem Flow, exec (stAt 21) henv = e21 >>= C ∧ C false = (standAt dp21 >>= fun _ => dictDisplay items21) >>= v21 := by
  rw [st21_eq]
  unfold e21 v21
  rw [tv21_eq]
  exact ⟨_, (bind_assoc _ _ _).symm, rfl⟩
theorem r_step (l : List ITEM) (b : ACC) : (forIn l b ddp.1.1) >>= gv21 = loopC PySem.W.Fast.tw12456147031677567982 ddp.1.1 (l.take 17) b >>= fun r => (match r with
    | .done b => pure b
    | .yield b => forIn (l.drop 17) b ddp.1.1) >>= gv21 := by
  conv => lhs; rw [← List.take_append_drop 17 l]
  rw [forIn_loopC, bind_assoc, PySem.W.Fast.te12456147031677567982]
theorem inj_c : ∀ a, resC a = .ret (.ref 116) → a = .yield (some 116, []) := by
  intro a h
  unfold resC at h
  split at h
  · injection h with h; injection h with h; subst h; rfl
  · cases h
noncomputable def resB (b : Bool) : Flow := match b with
  | true => .brk
  | false => .next
theorem inj_b : ∀ a, resB a = .next → a = false := by
  intro a h
  cases a with
  | true => cases h
  | false => rfl
theorem hk0 (w : World) (os : OsState) {N : Nat} {r : Shared} {Kf : Flow → Sem Fin} {Hf : Value → Sem Fin} (k : topRun treeTable hpw w 11 (some (.ref 6)) N (hst hv1 117 468 w os).abs ⟨((forIn (items21.drop 17) ((some 116, []) : ACC) ddp.1.1) >>= gv21).wrap Kf Hf id id, hcode, dp21, [topFrame hq]⟩ = some r) :
    topRun treeTable hpw w 11 (some (.ref 6)) (600 + N) (hst ht21 116 417 w os).abs ⟨((forIn (items21.drop 0) ((none, []) : ACC) ddp.1.1) >>= gv21).wrap Kf Hf id id, hcode, dp21, [topFrame hq]⟩ = some r := by
  rw [r_step]
  refine seg_bind (segRun_of (congrFun (hc0 w) os)) inj_c ?_
  dsimp only
  rw [List.drop_drop]
  exact k
theorem hk1 (w : World) (os : OsState) {N : Nat} {r : Shared} {Kf : Flow → Sem Fin} {Hf : Value → Sem Fin} (k : topRun treeTable hpw w 11 (some (.ref 6)) N (hst hv2 118 519 w os).abs ⟨((forIn (items21.drop 34) ((some 116, []) : ACC) ddp.1.1) >>= gv21).wrap Kf Hf id id, hcode, dp21, [topFrame hq]⟩ = some r) :
    topRun treeTable hpw w 11 (some (.ref 6)) (600 + N) (hst hv1 117 468 w os).abs ⟨((forIn (items21.drop 17) ((some 116, []) : ACC) ddp.1.1) >>= gv21).wrap Kf Hf id id, hcode, dp21, [topFrame hq]⟩ = some r := by
  rw [r_step]
  refine seg_bind (segRun_of (congrFun (hc1 w) os)) inj_c ?_
  dsimp only
  rw [List.drop_drop]
  exact k
theorem hk2 (w : World) (os : OsState) {N : Nat} {r : Shared} {Kf : Flow → Sem Fin} {Hf : Value → Sem Fin} (k : topRun treeTable hpw w 11 (some (.ref 6)) N (hst hv3 119 570 w os).abs ⟨((forIn (items21.drop 51) ((some 116, []) : ACC) ddp.1.1) >>= gv21).wrap Kf Hf id id, hcode, dp21, [topFrame hq]⟩ = some r) :
    topRun treeTable hpw w 11 (some (.ref 6)) (600 + N) (hst hv2 118 519 w os).abs ⟨((forIn (items21.drop 34) ((some 116, []) : ACC) ddp.1.1) >>= gv21).wrap Kf Hf id id, hcode, dp21, [topFrame hq]⟩ = some r := by
  rw [r_step]
  refine seg_bind (segRun_of (congrFun (hc2 w) os)) inj_c ?_
  dsimp only
  rw [List.drop_drop]
  exact k
theorem hk3 (w : World) (os : OsState) {N : Nat} {r : Shared} {Kf : Flow → Sem Fin} {Hf : Value → Sem Fin} (k : topRun treeTable hpw w 11 (some (.ref 6)) N (hst hv4 120 621 w os).abs ⟨((forIn (items21.drop 68) ((some 116, []) : ACC) ddp.1.1) >>= gv21).wrap Kf Hf id id, hcode, dp21, [topFrame hq]⟩ = some r) :
    topRun treeTable hpw w 11 (some (.ref 6)) (600 + N) (hst hv3 119 570 w os).abs ⟨((forIn (items21.drop 51) ((some 116, []) : ACC) ddp.1.1) >>= gv21).wrap Kf Hf id id, hcode, dp21, [topFrame hq]⟩ = some r := by
  rw [r_step]
  refine seg_bind (segRun_of (congrFun (hc3 w) os)) inj_c ?_
  dsimp only
  rw [List.drop_drop]
  exact k
theorem hk4 (w : World) (os : OsState) {N : Nat} {r : Shared} {Kf : Flow → Sem Fin} {Hf : Value → Sem Fin} (k : topRun treeTable hpw w 11 (some (.ref 6)) N (hst hv5 121 672 w os).abs ⟨((forIn (items21.drop 85) ((some 116, []) : ACC) ddp.1.1) >>= gv21).wrap Kf Hf id id, hcode, dp21, [topFrame hq]⟩ = some r) :
    topRun treeTable hpw w 11 (some (.ref 6)) (600 + N) (hst hv4 120 621 w os).abs ⟨((forIn (items21.drop 68) ((some 116, []) : ACC) ddp.1.1) >>= gv21).wrap Kf Hf id id, hcode, dp21, [topFrame hq]⟩ = some r := by
  rw [r_step]
  refine seg_bind (segRun_of (congrFun (hc4 w) os)) inj_c ?_
  dsimp only
  rw [List.drop_drop]
  exact k
theorem hk5 (w : World) (os : OsState) {N : Nat} {r : Shared} {Kf : Flow → Sem Fin} {Hf : Value → Sem Fin} (k : topRun treeTable hpw w 11 (some (.ref 6)) N (hst hv6 122 723 w os).abs ⟨((forIn (items21.drop 102) ((some 116, []) : ACC) ddp.1.1) >>= gv21).wrap Kf Hf id id, hcode, dp21, [topFrame hq]⟩ = some r) :
    topRun treeTable hpw w 11 (some (.ref 6)) (600 + N) (hst hv5 121 672 w os).abs ⟨((forIn (items21.drop 85) ((some 116, []) : ACC) ddp.1.1) >>= gv21).wrap Kf Hf id id, hcode, dp21, [topFrame hq]⟩ = some r := by
  rw [r_step]
  refine seg_bind (segRun_of (congrFun (hc5 w) os)) inj_c ?_
  dsimp only
  rw [List.drop_drop]
  exact k
theorem hk6 (w : World) (os : OsState) {N : Nat} {r : Shared} {Kf : Flow → Sem Fin} {Hf : Value → Sem Fin} (k : topRun treeTable hpw w 11 (some (.ref 6)) N (hst hv7 123 774 w os).abs ⟨((forIn (items21.drop 119) ((some 116, []) : ACC) ddp.1.1) >>= gv21).wrap Kf Hf id id, hcode, dp21, [topFrame hq]⟩ = some r) :
    topRun treeTable hpw w 11 (some (.ref 6)) (600 + N) (hst hv6 122 723 w os).abs ⟨((forIn (items21.drop 102) ((some 116, []) : ACC) ddp.1.1) >>= gv21).wrap Kf Hf id id, hcode, dp21, [topFrame hq]⟩ = some r := by
  rw [r_step]
  refine seg_bind (segRun_of (congrFun (hc6 w) os)) inj_c ?_
  dsimp only
  rw [List.drop_drop]
  exact k
theorem hk7 (w : World) (os : OsState) {N : Nat} {r : Shared} {Kf : Flow → Sem Fin} {Hf : Value → Sem Fin} (k : topRun treeTable hpw w 11 (some (.ref 6)) N (hst hv8 124 825 w os).abs ⟨((forIn (items21.drop 136) ((some 116, []) : ACC) ddp.1.1) >>= gv21).wrap Kf Hf id id, hcode, dp21, [topFrame hq]⟩ = some r) :
    topRun treeTable hpw w 11 (some (.ref 6)) (600 + N) (hst hv7 123 774 w os).abs ⟨((forIn (items21.drop 119) ((some 116, []) : ACC) ddp.1.1) >>= gv21).wrap Kf Hf id id, hcode, dp21, [topFrame hq]⟩ = some r := by
  rw [r_step]
  refine seg_bind (segRun_of (congrFun (hc7 w) os)) inj_c ?_
  dsimp only
  rw [List.drop_drop]
  exact k
theorem hk8 (w : World) (os : OsState) {N : Nat} {r : Shared} {Kf : Flow → Sem Fin} {Hf : Value → Sem Fin} (k : topRun treeTable hpw w 11 (some (.ref 6)) N (hst hv9 125 876 w os).abs ⟨((forIn (items21.drop 153) ((some 116, []) : ACC) ddp.1.1) >>= gv21).wrap Kf Hf id id, hcode, dp21, [topFrame hq]⟩ = some r) :
    topRun treeTable hpw w 11 (some (.ref 6)) (600 + N) (hst hv8 124 825 w os).abs ⟨((forIn (items21.drop 136) ((some 116, []) : ACC) ddp.1.1) >>= gv21).wrap Kf Hf id id, hcode, dp21, [topFrame hq]⟩ = some r := by
  rw [r_step]
  refine seg_bind (segRun_of (congrFun (hc8 w) os)) inj_c ?_
  dsimp only
  rw [List.drop_drop]
  exact k
theorem hk9 (w : World) (os : OsState) {N : Nat} {r : Shared} {Kf : Flow → Sem Fin} {Hf : Value → Sem Fin} (k : topRun treeTable hpw w 11 (some (.ref 6)) N (hst hv10 126 927 w os).abs ⟨((forIn (items21.drop 170) ((some 116, []) : ACC) ddp.1.1) >>= gv21).wrap Kf Hf id id, hcode, dp21, [topFrame hq]⟩ = some r) :
    topRun treeTable hpw w 11 (some (.ref 6)) (600 + N) (hst hv9 125 876 w os).abs ⟨((forIn (items21.drop 153) ((some 116, []) : ACC) ddp.1.1) >>= gv21).wrap Kf Hf id id, hcode, dp21, [topFrame hq]⟩ = some r := by
  rw [r_step]
  refine seg_bind (segRun_of (congrFun (hc9 w) os)) inj_c ?_
  dsimp only
  rw [List.drop_drop]
  exact k
theorem hk10 (w : World) (os : OsState) {N : Nat} {r : Shared} {Kf : Flow → Sem Fin} {Hf : Value → Sem Fin} (k : topRun treeTable hpw w 11 (some (.ref 6)) N (hst hv11 127 978 w os).abs ⟨((forIn (items21.drop 187) ((some 116, []) : ACC) ddp.1.1) >>= gv21).wrap Kf Hf id id, hcode, dp21, [topFrame hq]⟩ = some r) :
    topRun treeTable hpw w 11 (some (.ref 6)) (600 + N) (hst hv10 126 927 w os).abs ⟨((forIn (items21.drop 170) ((some 116, []) : ACC) ddp.1.1) >>= gv21).wrap Kf Hf id id, hcode, dp21, [topFrame hq]⟩ = some r := by
  rw [r_step]
  refine seg_bind (segRun_of (congrFun (hc10 w) os)) inj_c ?_
  dsimp only
  rw [List.drop_drop]
  exact k
theorem hk11 (w : World) (os : OsState) {N : Nat} {r : Shared} {Kf : Flow → Sem Fin} {Hf : Value → Sem Fin} (k : topRun treeTable hpw w 11 (some (.ref 6)) N (hst hv12 128 1029 w os).abs ⟨((forIn (items21.drop 204) ((some 116, []) : ACC) ddp.1.1) >>= gv21).wrap Kf Hf id id, hcode, dp21, [topFrame hq]⟩ = some r) :
    topRun treeTable hpw w 11 (some (.ref 6)) (600 + N) (hst hv11 127 978 w os).abs ⟨((forIn (items21.drop 187) ((some 116, []) : ACC) ddp.1.1) >>= gv21).wrap Kf Hf id id, hcode, dp21, [topFrame hq]⟩ = some r := by
  rw [r_step]
  refine seg_bind (segRun_of (congrFun (hc11 w) os)) inj_c ?_
  dsimp only
  rw [List.drop_drop]
  exact k
theorem hk12 (w : World) (os : OsState) {N : Nat} {r : Shared} {Kf : Flow → Sem Fin} {Hf : Value → Sem Fin} (k : topRun treeTable hpw w 11 (some (.ref 6)) N (hst hv13 129 1080 w os).abs ⟨((forIn (items21.drop 221) ((some 116, []) : ACC) ddp.1.1) >>= gv21).wrap Kf Hf id id, hcode, dp21, [topFrame hq]⟩ = some r) :
    topRun treeTable hpw w 11 (some (.ref 6)) (600 + N) (hst hv12 128 1029 w os).abs ⟨((forIn (items21.drop 204) ((some 116, []) : ACC) ddp.1.1) >>= gv21).wrap Kf Hf id id, hcode, dp21, [topFrame hq]⟩ = some r := by
  rw [r_step]
  refine seg_bind (segRun_of (congrFun (hc12 w) os)) inj_c ?_
  dsimp only
  rw [List.drop_drop]
  exact k
theorem hk13 (w : World) (os : OsState) {N : Nat} {r : Shared} {Kf : Flow → Sem Fin} {Hf : Value → Sem Fin} (k : topRun treeTable hpw w 11 (some (.ref 6)) N (hst hv14 130 1131 w os).abs ⟨((forIn (items21.drop 238) ((some 116, []) : ACC) ddp.1.1) >>= gv21).wrap Kf Hf id id, hcode, dp21, [topFrame hq]⟩ = some r) :
    topRun treeTable hpw w 11 (some (.ref 6)) (600 + N) (hst hv13 129 1080 w os).abs ⟨((forIn (items21.drop 221) ((some 116, []) : ACC) ddp.1.1) >>= gv21).wrap Kf Hf id id, hcode, dp21, [topFrame hq]⟩ = some r := by
  rw [r_step]
  refine seg_bind (segRun_of (congrFun (hc13 w) os)) inj_c ?_
  dsimp only
  rw [List.drop_drop]
  exact k
theorem hk14 (w : World) (os : OsState) {N : Nat} {r : Shared} {Kf : Flow → Sem Fin} {Hf : Value → Sem Fin} (k : topRun treeTable hpw w 11 (some (.ref 6)) N (hst hv15 131 1182 w os).abs ⟨((forIn (items21.drop 255) ((some 116, []) : ACC) ddp.1.1) >>= gv21).wrap Kf Hf id id, hcode, dp21, [topFrame hq]⟩ = some r) :
    topRun treeTable hpw w 11 (some (.ref 6)) (600 + N) (hst hv14 130 1131 w os).abs ⟨((forIn (items21.drop 238) ((some 116, []) : ACC) ddp.1.1) >>= gv21).wrap Kf Hf id id, hcode, dp21, [topFrame hq]⟩ = some r := by
  rw [r_step]
  refine seg_bind (segRun_of (congrFun (hc14 w) os)) inj_c ?_
  dsimp only
  rw [List.drop_drop]
  exact k
theorem hk15 (w : World) (os : OsState) {N : Nat} {r : Shared} {Kf : Flow → Sem Fin} {Hf : Value → Sem Fin} (k : topRun treeTable hpw w 11 (some (.ref 6)) N (hst hv16 132 1233 w os).abs ⟨((forIn (items21.drop 272) ((some 116, []) : ACC) ddp.1.1) >>= gv21).wrap Kf Hf id id, hcode, dp21, [topFrame hq]⟩ = some r) :
    topRun treeTable hpw w 11 (some (.ref 6)) (600 + N) (hst hv15 131 1182 w os).abs ⟨((forIn (items21.drop 255) ((some 116, []) : ACC) ddp.1.1) >>= gv21).wrap Kf Hf id id, hcode, dp21, [topFrame hq]⟩ = some r := by
  rw [r_step]
  refine seg_bind (segRun_of (congrFun (hc15 w) os)) inj_c ?_
  dsimp only
  rw [List.drop_drop]
  exact k
theorem hk16 (w : World) (os : OsState) {N : Nat} {r : Shared} {Kf : Flow → Sem Fin} {Hf : Value → Sem Fin} (k : topRun treeTable hpw w 11 (some (.ref 6)) N (hst hv17 133 1284 w os).abs ⟨((forIn (items21.drop 289) ((some 116, []) : ACC) ddp.1.1) >>= gv21).wrap Kf Hf id id, hcode, dp21, [topFrame hq]⟩ = some r) :
    topRun treeTable hpw w 11 (some (.ref 6)) (600 + N) (hst hv16 132 1233 w os).abs ⟨((forIn (items21.drop 272) ((some 116, []) : ACC) ddp.1.1) >>= gv21).wrap Kf Hf id id, hcode, dp21, [topFrame hq]⟩ = some r := by
  rw [r_step]
  refine seg_bind (segRun_of (congrFun (hc16 w) os)) inj_c ?_
  dsimp only
  rw [List.drop_drop]
  exact k
theorem hk17 (w : World) (os : OsState) {N : Nat} {r : Shared} {Kf : Flow → Sem Fin} {Hf : Value → Sem Fin} (k : topRun treeTable hpw w 11 (some (.ref 6)) N (hst hv18 134 1335 w os).abs ⟨((forIn (items21.drop 306) ((some 116, []) : ACC) ddp.1.1) >>= gv21).wrap Kf Hf id id, hcode, dp21, [topFrame hq]⟩ = some r) :
    topRun treeTable hpw w 11 (some (.ref 6)) (600 + N) (hst hv17 133 1284 w os).abs ⟨((forIn (items21.drop 289) ((some 116, []) : ACC) ddp.1.1) >>= gv21).wrap Kf Hf id id, hcode, dp21, [topFrame hq]⟩ = some r := by
  rw [r_step]
  refine seg_bind (segRun_of (congrFun (hc17 w) os)) inj_c ?_
  dsimp only
  rw [List.drop_drop]
  exact k
theorem hk18 (w : World) (os : OsState) {N : Nat} {r : Shared} {Kf : Flow → Sem Fin} {Hf : Value → Sem Fin} (k : topRun treeTable hpw w 11 (some (.ref 6)) N (hst hv19 135 1386 w os).abs ⟨((forIn (items21.drop 323) ((some 116, []) : ACC) ddp.1.1) >>= gv21).wrap Kf Hf id id, hcode, dp21, [topFrame hq]⟩ = some r) :
    topRun treeTable hpw w 11 (some (.ref 6)) (600 + N) (hst hv18 134 1335 w os).abs ⟨((forIn (items21.drop 306) ((some 116, []) : ACC) ddp.1.1) >>= gv21).wrap Kf Hf id id, hcode, dp21, [topFrame hq]⟩ = some r := by
  rw [r_step]
  refine seg_bind (segRun_of (congrFun (hc18 w) os)) inj_c ?_
  dsimp only
  rw [List.drop_drop]
  exact k
theorem hk19 (w : World) (os : OsState) {N : Nat} {r : Shared} {Kf : Flow → Sem Fin} {Hf : Value → Sem Fin} (k : topRun treeTable hpw w 11 (some (.ref 6)) N (hst hv20 136 1437 w os).abs ⟨((forIn (items21.drop 340) ((some 116, []) : ACC) ddp.1.1) >>= gv21).wrap Kf Hf id id, hcode, dp21, [topFrame hq]⟩ = some r) :
    topRun treeTable hpw w 11 (some (.ref 6)) (600 + N) (hst hv19 135 1386 w os).abs ⟨((forIn (items21.drop 323) ((some 116, []) : ACC) ddp.1.1) >>= gv21).wrap Kf Hf id id, hcode, dp21, [topFrame hq]⟩ = some r := by
  rw [r_step]
  refine seg_bind (segRun_of (congrFun (hc19 w) os)) inj_c ?_
  dsimp only
  rw [List.drop_drop]
  exact k
theorem hk20 (w : World) (os : OsState) {N : Nat} {r : Shared} {Kf : Flow → Sem Fin} {Hf : Value → Sem Fin} (k : topRun treeTable hpw w 11 (some (.ref 6)) N (hst hv21 137 1488 w os).abs ⟨((forIn (items21.drop 357) ((some 116, []) : ACC) ddp.1.1) >>= gv21).wrap Kf Hf id id, hcode, dp21, [topFrame hq]⟩ = some r) :
    topRun treeTable hpw w 11 (some (.ref 6)) (600 + N) (hst hv20 136 1437 w os).abs ⟨((forIn (items21.drop 340) ((some 116, []) : ACC) ddp.1.1) >>= gv21).wrap Kf Hf id id, hcode, dp21, [topFrame hq]⟩ = some r := by
  rw [r_step]
  refine seg_bind (segRun_of (congrFun (hc20 w) os)) inj_c ?_
  dsimp only
  rw [List.drop_drop]
  exact k
theorem hk21 (w : World) (os : OsState) {N : Nat} {r : Shared} {Kf : Flow → Sem Fin} {Hf : Value → Sem Fin} (k : topRun treeTable hpw w 11 (some (.ref 6)) N (hst hv22 138 1539 w os).abs ⟨((forIn (items21.drop 374) ((some 116, []) : ACC) ddp.1.1) >>= gv21).wrap Kf Hf id id, hcode, dp21, [topFrame hq]⟩ = some r) :
    topRun treeTable hpw w 11 (some (.ref 6)) (600 + N) (hst hv21 137 1488 w os).abs ⟨((forIn (items21.drop 357) ((some 116, []) : ACC) ddp.1.1) >>= gv21).wrap Kf Hf id id, hcode, dp21, [topFrame hq]⟩ = some r := by
  rw [r_step]
  refine seg_bind (segRun_of (congrFun (hc21 w) os)) inj_c ?_
  dsimp only
  rw [List.drop_drop]
  exact k
theorem hk22 (w : World) (os : OsState) {N : Nat} {r : Shared} {Kf : Flow → Sem Fin} {Hf : Value → Sem Fin} (k : topRun treeTable hpw w 11 (some (.ref 6)) N (hst hv23 139 1590 w os).abs ⟨((forIn (items21.drop 391) ((some 116, []) : ACC) ddp.1.1) >>= gv21).wrap Kf Hf id id, hcode, dp21, [topFrame hq]⟩ = some r) :
    topRun treeTable hpw w 11 (some (.ref 6)) (600 + N) (hst hv22 138 1539 w os).abs ⟨((forIn (items21.drop 374) ((some 116, []) : ACC) ddp.1.1) >>= gv21).wrap Kf Hf id id, hcode, dp21, [topFrame hq]⟩ = some r := by
  rw [r_step]
  refine seg_bind (segRun_of (congrFun (hc22 w) os)) inj_c ?_
  dsimp only
  rw [List.drop_drop]
  exact k
theorem hk23 (w : World) (os : OsState) {N : Nat} {r : Shared} {Kf : Flow → Sem Fin} {Hf : Value → Sem Fin} (k : topRun treeTable hpw w 11 (some (.ref 6)) N (hst hv24 140 1641 w os).abs ⟨((forIn (items21.drop 408) ((some 116, []) : ACC) ddp.1.1) >>= gv21).wrap Kf Hf id id, hcode, dp21, [topFrame hq]⟩ = some r) :
    topRun treeTable hpw w 11 (some (.ref 6)) (600 + N) (hst hv23 139 1590 w os).abs ⟨((forIn (items21.drop 391) ((some 116, []) : ACC) ddp.1.1) >>= gv21).wrap Kf Hf id id, hcode, dp21, [topFrame hq]⟩ = some r := by
  rw [r_step]
  refine seg_bind (segRun_of (congrFun (hc23 w) os)) inj_c ?_
  dsimp only
  rw [List.drop_drop]
  exact k
theorem hk24 (w : World) (os : OsState) {N : Nat} {r : Shared} {Kf : Flow → Sem Fin} {Hf : Value → Sem Fin} (k : topRun treeTable hpw w 11 (some (.ref 6)) N (hst hv25 141 1692 w os).abs ⟨((forIn (items21.drop 425) ((some 116, []) : ACC) ddp.1.1) >>= gv21).wrap Kf Hf id id, hcode, dp21, [topFrame hq]⟩ = some r) :
    topRun treeTable hpw w 11 (some (.ref 6)) (600 + N) (hst hv24 140 1641 w os).abs ⟨((forIn (items21.drop 408) ((some 116, []) : ACC) ddp.1.1) >>= gv21).wrap Kf Hf id id, hcode, dp21, [topFrame hq]⟩ = some r := by
  rw [r_step]
  refine seg_bind (segRun_of (congrFun (hc24 w) os)) inj_c ?_
  dsimp only
  rw [List.drop_drop]
  exact k
theorem hk25 (w : World) (os : OsState) {N : Nat} {r : Shared} {Kf : Flow → Sem Fin} {Hf : Value → Sem Fin} (k : topRun treeTable hpw w 11 (some (.ref 6)) N (hst hv26 142 1743 w os).abs ⟨((forIn (items21.drop 442) ((some 116, []) : ACC) ddp.1.1) >>= gv21).wrap Kf Hf id id, hcode, dp21, [topFrame hq]⟩ = some r) :
    topRun treeTable hpw w 11 (some (.ref 6)) (600 + N) (hst hv25 141 1692 w os).abs ⟨((forIn (items21.drop 425) ((some 116, []) : ACC) ddp.1.1) >>= gv21).wrap Kf Hf id id, hcode, dp21, [topFrame hq]⟩ = some r := by
  rw [r_step]
  refine seg_bind (segRun_of (congrFun (hc25 w) os)) inj_c ?_
  dsimp only
  rw [List.drop_drop]
  exact k
theorem hk26 (w : World) (os : OsState) {N : Nat} {r : Shared} {Kf : Flow → Sem Fin} {Hf : Value → Sem Fin} (k : topRun treeTable hpw w 11 (some (.ref 6)) N (hst hv27 143 1794 w os).abs ⟨((forIn (items21.drop 459) ((some 116, []) : ACC) ddp.1.1) >>= gv21).wrap Kf Hf id id, hcode, dp21, [topFrame hq]⟩ = some r) :
    topRun treeTable hpw w 11 (some (.ref 6)) (600 + N) (hst hv26 142 1743 w os).abs ⟨((forIn (items21.drop 442) ((some 116, []) : ACC) ddp.1.1) >>= gv21).wrap Kf Hf id id, hcode, dp21, [topFrame hq]⟩ = some r := by
  rw [r_step]
  refine seg_bind (segRun_of (congrFun (hc26 w) os)) inj_c ?_
  dsimp only
  rw [List.drop_drop]
  exact k
theorem hk27 (w : World) (os : OsState) {N : Nat} {r : Shared} {Kf : Flow → Sem Fin} {Hf : Value → Sem Fin} (k : topRun treeTable hpw w 11 (some (.ref 6)) N (hst hv28 144 1845 w os).abs ⟨((forIn (items21.drop 476) ((some 116, []) : ACC) ddp.1.1) >>= gv21).wrap Kf Hf id id, hcode, dp21, [topFrame hq]⟩ = some r) :
    topRun treeTable hpw w 11 (some (.ref 6)) (600 + N) (hst hv27 143 1794 w os).abs ⟨((forIn (items21.drop 459) ((some 116, []) : ACC) ddp.1.1) >>= gv21).wrap Kf Hf id id, hcode, dp21, [topFrame hq]⟩ = some r := by
  rw [r_step]
  refine seg_bind (segRun_of (congrFun (hc27 w) os)) inj_c ?_
  dsimp only
  rw [List.drop_drop]
  exact k
theorem hk28 (w : World) (os : OsState) {N : Nat} {r : Shared} {Kf : Flow → Sem Fin} {Hf : Value → Sem Fin} (k : topRun treeTable hpw w 11 (some (.ref 6)) N (hst hv29 145 1896 w os).abs ⟨((forIn (items21.drop 493) ((some 116, []) : ACC) ddp.1.1) >>= gv21).wrap Kf Hf id id, hcode, dp21, [topFrame hq]⟩ = some r) :
    topRun treeTable hpw w 11 (some (.ref 6)) (600 + N) (hst hv28 144 1845 w os).abs ⟨((forIn (items21.drop 476) ((some 116, []) : ACC) ddp.1.1) >>= gv21).wrap Kf Hf id id, hcode, dp21, [topFrame hq]⟩ = some r := by
  rw [r_step]
  refine seg_bind (segRun_of (congrFun (hc28 w) os)) inj_c ?_
  dsimp only
  rw [List.drop_drop]
  exact k
theorem hk29 (w : World) (os : OsState) {N : Nat} {r : Shared} {Kf : Flow → Sem Fin} {Hf : Value → Sem Fin} (k : topRun treeTable hpw w 11 (some (.ref 6)) N (hst hv30 146 1947 w os).abs ⟨((forIn (items21.drop 510) ((some 116, []) : ACC) ddp.1.1) >>= gv21).wrap Kf Hf id id, hcode, dp21, [topFrame hq]⟩ = some r) :
    topRun treeTable hpw w 11 (some (.ref 6)) (600 + N) (hst hv29 145 1896 w os).abs ⟨((forIn (items21.drop 493) ((some 116, []) : ACC) ddp.1.1) >>= gv21).wrap Kf Hf id id, hcode, dp21, [topFrame hq]⟩ = some r := by
  rw [r_step]
  refine seg_bind (segRun_of (congrFun (hc29 w) os)) inj_c ?_
  dsimp only
  rw [List.drop_drop]
  exact k
theorem hk30 (w : World) (os : OsState) {N : Nat} {r : Shared} {Kf : Flow → Sem Fin} {Hf : Value → Sem Fin} (k : topRun treeTable hpw w 11 (some (.ref 6)) N (hst hv31 147 1998 w os).abs ⟨((forIn (items21.drop 527) ((some 116, []) : ACC) ddp.1.1) >>= gv21).wrap Kf Hf id id, hcode, dp21, [topFrame hq]⟩ = some r) :
    topRun treeTable hpw w 11 (some (.ref 6)) (600 + N) (hst hv30 146 1947 w os).abs ⟨((forIn (items21.drop 510) ((some 116, []) : ACC) ddp.1.1) >>= gv21).wrap Kf Hf id id, hcode, dp21, [topFrame hq]⟩ = some r := by
  rw [r_step]
  refine seg_bind (segRun_of (congrFun (hc30 w) os)) inj_c ?_
  dsimp only
  rw [List.drop_drop]
  exact k
theorem hk31 (w : World) (os : OsState) {N : Nat} {r : Shared} {Kf : Flow → Sem Fin} {Hf : Value → Sem Fin} (k : topRun treeTable hpw w 11 (some (.ref 6)) N (hst hv32 148 2049 w os).abs ⟨((forIn (items21.drop 544) ((some 116, []) : ACC) ddp.1.1) >>= gv21).wrap Kf Hf id id, hcode, dp21, [topFrame hq]⟩ = some r) :
    topRun treeTable hpw w 11 (some (.ref 6)) (600 + N) (hst hv31 147 1998 w os).abs ⟨((forIn (items21.drop 527) ((some 116, []) : ACC) ddp.1.1) >>= gv21).wrap Kf Hf id id, hcode, dp21, [topFrame hq]⟩ = some r := by
  rw [r_step]
  refine seg_bind (segRun_of (congrFun (hc31 w) os)) inj_c ?_
  dsimp only
  rw [List.drop_drop]
  exact k
theorem hk32 (w : World) (os : OsState) {N : Nat} {r : Shared} {Kf : Flow → Sem Fin} {Hf : Value → Sem Fin} (k : topRun treeTable hpw w 11 (some (.ref 6)) N (hst hv33 149 2100 w os).abs ⟨((forIn (items21.drop 561) ((some 116, []) : ACC) ddp.1.1) >>= gv21).wrap Kf Hf id id, hcode, dp21, [topFrame hq]⟩ = some r) :
    topRun treeTable hpw w 11 (some (.ref 6)) (600 + N) (hst hv32 148 2049 w os).abs ⟨((forIn (items21.drop 544) ((some 116, []) : ACC) ddp.1.1) >>= gv21).wrap Kf Hf id id, hcode, dp21, [topFrame hq]⟩ = some r := by
  rw [r_step]
  refine seg_bind (segRun_of (congrFun (hc32 w) os)) inj_c ?_
  dsimp only
  rw [List.drop_drop]
  exact k
theorem hk33 (w : World) (os : OsState) {N : Nat} {r : Shared} {Kf : Flow → Sem Fin} {Hf : Value → Sem Fin} (k : topRun treeTable hpw w 11 (some (.ref 6)) N (hst hv34 150 2151 w os).abs ⟨((forIn (items21.drop 578) ((some 116, []) : ACC) ddp.1.1) >>= gv21).wrap Kf Hf id id, hcode, dp21, [topFrame hq]⟩ = some r) :
    topRun treeTable hpw w 11 (some (.ref 6)) (600 + N) (hst hv33 149 2100 w os).abs ⟨((forIn (items21.drop 561) ((some 116, []) : ACC) ddp.1.1) >>= gv21).wrap Kf Hf id id, hcode, dp21, [topFrame hq]⟩ = some r := by
  rw [r_step]
  refine seg_bind (segRun_of (congrFun (hc33 w) os)) inj_c ?_
  dsimp only
  rw [List.drop_drop]
  exact k
theorem hk34 (w : World) (os : OsState) {N : Nat} {r : Shared} {Kf : Flow → Sem Fin} {Hf : Value → Sem Fin} (k : topRun treeTable hpw w 11 (some (.ref 6)) N (hst hv35 151 2202 w os).abs ⟨((forIn (items21.drop 595) ((some 116, []) : ACC) ddp.1.1) >>= gv21).wrap Kf Hf id id, hcode, dp21, [topFrame hq]⟩ = some r) :
    topRun treeTable hpw w 11 (some (.ref 6)) (600 + N) (hst hv34 150 2151 w os).abs ⟨((forIn (items21.drop 578) ((some 116, []) : ACC) ddp.1.1) >>= gv21).wrap Kf Hf id id, hcode, dp21, [topFrame hq]⟩ = some r := by
  rw [r_step]
  refine seg_bind (segRun_of (congrFun (hc34 w) os)) inj_c ?_
  dsimp only
  rw [List.drop_drop]
  exact k
theorem hk35 (w : World) (os : OsState) {N : Nat} {r : Shared} {Kf : Flow → Sem Fin} {Hf : Value → Sem Fin} (k : topRun treeTable hpw w 11 (some (.ref 6)) N (hst hv36 152 2253 w os).abs ⟨((forIn (items21.drop 612) ((some 116, []) : ACC) ddp.1.1) >>= gv21).wrap Kf Hf id id, hcode, dp21, [topFrame hq]⟩ = some r) :
    topRun treeTable hpw w 11 (some (.ref 6)) (600 + N) (hst hv35 151 2202 w os).abs ⟨((forIn (items21.drop 595) ((some 116, []) : ACC) ddp.1.1) >>= gv21).wrap Kf Hf id id, hcode, dp21, [topFrame hq]⟩ = some r := by
  rw [r_step]
  refine seg_bind (segRun_of (congrFun (hc35 w) os)) inj_c ?_
  dsimp only
  rw [List.drop_drop]
  exact k
theorem hk36 (w : World) (os : OsState) {N : Nat} {r : Shared} {Kf : Flow → Sem Fin} {Hf : Value → Sem Fin} (k : topRun treeTable hpw w 11 (some (.ref 6)) N (hst hv37 153 2304 w os).abs ⟨((forIn (items21.drop 629) ((some 116, []) : ACC) ddp.1.1) >>= gv21).wrap Kf Hf id id, hcode, dp21, [topFrame hq]⟩ = some r) :
    topRun treeTable hpw w 11 (some (.ref 6)) (600 + N) (hst hv36 152 2253 w os).abs ⟨((forIn (items21.drop 612) ((some 116, []) : ACC) ddp.1.1) >>= gv21).wrap Kf Hf id id, hcode, dp21, [topFrame hq]⟩ = some r := by
  rw [r_step]
  refine seg_bind (segRun_of (congrFun (hc36 w) os)) inj_c ?_
  dsimp only
  rw [List.drop_drop]
  exact k
theorem hk37 (w : World) (os : OsState) {N : Nat} {r : Shared} {Kf : Flow → Sem Fin} {Hf : Value → Sem Fin} (k : topRun treeTable hpw w 11 (some (.ref 6)) N (hst hv38 154 2355 w os).abs ⟨((forIn (items21.drop 646) ((some 116, []) : ACC) ddp.1.1) >>= gv21).wrap Kf Hf id id, hcode, dp21, [topFrame hq]⟩ = some r) :
    topRun treeTable hpw w 11 (some (.ref 6)) (600 + N) (hst hv37 153 2304 w os).abs ⟨((forIn (items21.drop 629) ((some 116, []) : ACC) ddp.1.1) >>= gv21).wrap Kf Hf id id, hcode, dp21, [topFrame hq]⟩ = some r := by
  rw [r_step]
  refine seg_bind (segRun_of (congrFun (hc37 w) os)) inj_c ?_
  dsimp only
  rw [List.drop_drop]
  exact k
theorem hz21 (w : World) : (fun os => segRunT treeTable hpw w 11 (some (.ref 6)) 1 600 (hst hv38 154 2355 w os) ⟨((forIn (items21.drop 646) ((some 116, []) : ACC) ddp.1.1) >>= gv21).wrap doneF deadEnd id id, hcode, dp21, [topFrame hq]⟩) = fun os => some (.next, hst ht22 155 2368 w os, hcode, ⟨175, 0, 175, 13⟩) := by
  rw [PySem.W.Fast.te10110043849684766642, PySem.W.Fast.te14364793385576792824]; unfold gv21 v21; rw [PySem.W.Fast.te4016559146275205325, PySem.W.Fast.te2470068587113613483, PySem.W.Fast.te12456147031677567982]; kernel_rfl
theorem he21 (w : World) : (fun os => segRunT treeTable hpw w 11 (some (.ref 6)) 1 100 (hst ht21 116 417 w os) ⟨e21.wrap (fun a => .pure (.done (resB a))) deadEnd id id, hcode, ⟨173, 0, 174, 30⟩, [topFrame hq]⟩) = fun os => some (.next, hst ht21 116 417 w os, hcode, tp21) := by
  rw [PySem.W.Fast.te10110043849684766642, PySem.W.Fast.te14364793385576792824]; unfold e21; rw [PySem.W.Fast.te7783108440312521181]; kernel_rfl
theorem hs21 (w : World) : (fun os => segRunT treeTable hpw w 11 (some (.ref 6)) 1 10 (hst ht21 116 417 w os) ⟨(standAt dp21).wrap (fun _ => .pure (.done .next)) deadEnd id id, hcode, tp21, [topFrame hq]⟩) = fun os => some (.next, hst ht21 116 417 w os, hcode, dp21) := by
  kernel_rfl
theorem h21 (w : World) (os : OsState) {N : Nat} {r : Shared} {Kf : Flow → Sem Fin} {Hf : Value → Sem Fin} (k : topRun treeTable hpw w 11 (some (.ref 6)) N (hst ht22 155 2368 w os).abs ⟨Kf .next, hcode, ⟨175, 0, 175, 13⟩, [topFrame hq]⟩ = some r) :
    topRun treeTable hpw w 11 (some (.ref 6)) (100 + (10 + (600 + (600 + (600 + (600 + (600 + (600 + (600 + (600 + (600 + (600 + (600 + (600 + (600 + (600 + (600 + (600 + (600 + (600 + (600 + (600 + (600 + (600 + (600 + (600 + (600 + (600 + (600 + (600 + (600 + (600 + (600 + (600 + (600 + (600 + (600 + (600 + (600 + (600 + (600 + N))))))))))))))))))))))))))))))))))))))))) (hst ht21 116 417 w os).abs ⟨(exec (stAt 21) henv).wrap Kf Hf id id, hcode, ⟨173, 0, 174, 30⟩, [topFrame hq]⟩ = some r := by
  obtain ⟨C, h1, h2⟩ := ex21
  rw [h1]
  refine seg_bind (segRun_of (congrFun (he21 w) os)) inj_b ?_
  rw [h2, bind_assoc]
  refine seg_bind (res := fun _ => .next) (segRun_of (congrFun (hs21 w) os)) (a0 := ()) (fun _ _ => rfl) ?_
  rw [dd_eq, bind_assoc]
  exact hk0 w os (hk1 w os (hk2 w os (hk3 w os (hk4 w os (hk5 w os (hk6 w os (hk7 w os (hk8 w os (hk9 w os (hk10 w os (hk11 w os (hk12 w os (hk13 w os (hk14 w os (hk15 w os (hk16 w os (hk17 w os (hk18 w os (hk19 w os (hk20 w os (hk21 w os (hk22 w os (hk23 w os (hk24 w os (hk25 w os (hk26 w os (hk27 w os (hk28 w os (hk29 w os (hk30 w os (hk31 w os (hk32 w os (hk33 w os (hk34 w os (hk35 w os (hk36 w os (hk37 w os (seg_last (segRun_of (congrFun (hz21 w) os)) k))))))))))))))))))))))))))))))))))))))
end
end Mine
end
section
open PySem PySem.W PyProof.Rows PySem.Calls
namespace Mine
noncomputable section
noncomputable def keepL : List Nat := [1, 2, 3, 4, 5, 7, 8, 9, 10, 11, 12, 13, 19, 20, 21, 22, 24, 25, 26, 27, 28, 29, 30, 31]
noncomputable def qv : Program := view PySem.Challenge.pw_sn0097_01 keepL
noncomputable def looseL : List Str := ["bisect_right", "insort_left", "bisect_left", "b1_set", "b3_exceptions"]
noncomputable def lvL : List (Str × WData) := []
noncomputable def H : Hook := kmHook K Ks (fun _ => by kernel_rfl) [44, 51]
theorem hopen : ∀ w : World, (fencedOpening treeTable hpw w 28710).map (fun s => (s.heap, s.gens, s.drawn, s.toks)) = some (boot_heap w.params, Array.mk [], boot_drawn, boot_toks) :=
  boot_open (by kernel_rfl) (by decide +kernel) (fun s => rfl)
theorem hsize (w : World) : ((boot_heap w.params).isNs mainGlobals && (Array.mk [] : Array GenState).size == 0, (boot_heap w.params).objs.size, (boot_heap w.params).nsMap mainGlobals "__annotations__") = (true, 11, some (.ref 6)) := by
  rw [PySem.W.Fast.te8920871248978507458]; kernel_rfl
theorem hpre (w : World) : (fun os => topGo treeTable hpw w 11 (some (.ref 6)) 12 ⟨boot_heap w.params, Array.mk [], boot_drawn, boot_toks, os⟩ (topStub hpw)) = fun os => some ((hst ht0 15 187 w os).abs, ⟨denote treeTable hcode, hcode, hq, [topFrame hq]⟩) := by
  kernel_rfl
theorem hblock (w : World) : (fun os => segRun treeTable hpw w 11 (some (.ref 6)) 1 1 (hst ht0 15 187 w os).abs (blockOf (behindTheImports hpw) henv hcode hq [topFrame hq])) = fun os => some (.next, (hst ht0 15 187 w os).abs, hcode, hq) := by
  rw [PySem.W.Fast.te14374325043358763698, PySem.W.Fast.te14364793385576792824]; kernel_rfl
theorem hfin (w : World) : (fun os => topRun treeTable hpw w 11 (some (.ref 6)) 2 (hst ht32 208 2438 w os).abs ⟨doneF .next, hcode, ⟨219, 0, 235, 15⟩, [topFrame hq]⟩) = fun os => some (hst ht32 208 2438 w os).abs := by
  rw [PySem.W.Fast.te14082659384304107361, PySem.W.Fast.te14364793385576792824]; kernel_rfl
noncomputable def hl32 : List Stmt := []
noncomputable def hm32 : Nat := 2
theorem hr32 (w : World) (os : OsState) : topRun treeTable hpw w 11 (some (.ref 6)) hm32 (hst ht32 208 2438 w os).abs (restOf hl32 henv hcode ⟨219, 0, 235, 15⟩ [topFrame hq]) = some (hst ht32 208 2438 w os).abs :=
  @piece_nil treeTable hpw w 11 (some (.ref 6)) henv hq 2 (hst ht32 208 2438 w os).abs (hst ht32 208 2438 w os).abs hcode ⟨219, 0, 235, 15⟩ (congrFun (hfin w) os)
noncomputable def hl31 : List Stmt := [stAt 31] ++ hl32
noncomputable def hm31 : Nat := 27 + hm32
theorem hr31 (w : World) (os : OsState) : topRun treeTable hpw w 11 (some (.ref 6)) hm31 (hst ht31 203 2432 w os).abs (restOf hl31 henv hcode ⟨216, 0, 218, 67⟩ [topFrame hq]) = some (hst ht32 208 2438 w os).abs :=
  @piece_app treeTable hpw w 11 (some (.ref 6)) henv hq 27 hm32 (hst ht31 203 2432 w os).abs (hst ht32 208 2438 w os).abs (hst ht32 208 2438 w os).abs [stAt 31] hl32 hcode ⟨216, 0, 218, 67⟩ ⟨219, 0, 235, 15⟩ (segRun_of (congrFun (hp31 w) os)) (hr32 w os)
noncomputable def hl30 : List Stmt := [stAt 30] ++ hl31
noncomputable def hm30 : Nat := 34 + hm31
theorem hr30 (w : World) (os : OsState) : topRun treeTable hpw w 11 (some (.ref 6)) hm30 (hst ht30 196 2421 w os).abs (restOf hl30 henv hcode ⟨207, 0, 215, 64⟩ [topFrame hq]) = some (hst ht32 208 2438 w os).abs :=
  @piece_app treeTable hpw w 11 (some (.ref 6)) henv hq 34 hm31 (hst ht30 196 2421 w os).abs (hst ht31 203 2432 w os).abs (hst ht32 208 2438 w os).abs [stAt 30] hl31 hcode ⟨207, 0, 215, 64⟩ ⟨216, 0, 218, 67⟩ (segRun_of (congrFun (hp30 w) os)) (hr31 w os)
noncomputable def hl29 : List Stmt := [stAt 29] ++ hl30
noncomputable def hm29 : Nat := 27 + hm30
theorem hr29 (w : World) (os : OsState) : topRun treeTable hpw w 11 (some (.ref 6)) hm29 (hst ht29 191 2415 w os).abs (restOf hl29 henv hcode ⟨198, 0, 206, 37⟩ [topFrame hq]) = some (hst ht32 208 2438 w os).abs :=
  @piece_app treeTable hpw w 11 (some (.ref 6)) henv hq 27 hm30 (hst ht29 191 2415 w os).abs (hst ht30 196 2421 w os).abs (hst ht32 208 2438 w os).abs [stAt 29] hl30 hcode ⟨198, 0, 206, 37⟩ ⟨207, 0, 215, 64⟩ (segRun_of (congrFun (hp29 w) os)) (hr30 w os)
noncomputable def hl28 : List Stmt := [stAt 28] ++ hl29
noncomputable def hm28 : Nat := 27 + hm29
theorem hr28 (w : World) (os : OsState) : topRun treeTable hpw w 11 (some (.ref 6)) hm28 (hst ht28 186 2409 w os).abs (restOf hl28 henv hcode ⟨193, 0, 197, 14⟩ [topFrame hq]) = some (hst ht32 208 2438 w os).abs :=
  @piece_app treeTable hpw w 11 (some (.ref 6)) henv hq 27 hm29 (hst ht28 186 2409 w os).abs (hst ht29 191 2415 w os).abs (hst ht32 208 2438 w os).abs [stAt 28] hl29 hcode ⟨193, 0, 197, 14⟩ ⟨198, 0, 206, 37⟩ (segRun_of (congrFun (hp28 w) os)) (hr29 w os)
noncomputable def hl27 : List Stmt := [stAt 27] ++ hl28
noncomputable def hm27 : Nat := 32 + hm28
theorem hr27 (w : World) (os : OsState) : topRun treeTable hpw w 11 (some (.ref 6)) hm27 (hst ht27 179 2400 w os).abs (restOf hl27 henv hcode ⟨191, 0, 192, 83⟩ [topFrame hq]) = some (hst ht32 208 2438 w os).abs :=
  @piece_app treeTable hpw w 11 (some (.ref 6)) henv hq 32 hm28 (hst ht27 179 2400 w os).abs (hst ht28 186 2409 w os).abs (hst ht32 208 2438 w os).abs [stAt 27] hl28 hcode ⟨191, 0, 192, 83⟩ ⟨193, 0, 197, 14⟩ (segRun_of (congrFun (hp27 w) os)) (hr28 w os)
noncomputable def hl26 : List Stmt := [stAt 26] ++ hl27
noncomputable def hm26 : Nat := 27 + hm27
theorem hr26 (w : World) (os : OsState) : topRun treeTable hpw w 11 (some (.ref 6)) hm26 (hst ht26 174 2394 w os).abs (restOf hl26 henv hcode ⟨185, 0, 190, 16⟩ [topFrame hq]) = some (hst ht32 208 2438 w os).abs :=
  @piece_app treeTable hpw w 11 (some (.ref 6)) henv hq 27 hm27 (hst ht26 174 2394 w os).abs (hst ht27 179 2400 w os).abs (hst ht32 208 2438 w os).abs [stAt 26] hl27 hcode ⟨185, 0, 190, 16⟩ ⟨191, 0, 192, 83⟩ (segRun_of (congrFun (hp26 w) os)) (hr27 w os)
noncomputable def hl25 : List Stmt := [stAt 25] ++ hl26
noncomputable def hm25 : Nat := 33 + hm26
theorem hr25 (w : World) (os : OsState) : topRun treeTable hpw w 11 (some (.ref 6)) hm25 (hst ht25 167 2384 w os).abs (restOf hl25 henv hcode ⟨182, 0, 184, 51⟩ [topFrame hq]) = some (hst ht32 208 2438 w os).abs :=
  @piece_app treeTable hpw w 11 (some (.ref 6)) henv hq 33 hm26 (hst ht25 167 2384 w os).abs (hst ht26 174 2394 w os).abs (hst ht32 208 2438 w os).abs [stAt 25] hl26 hcode ⟨182, 0, 184, 51⟩ ⟨185, 0, 190, 16⟩ (segRun_of (congrFun (hp25 w) os)) (hr26 w os)
noncomputable def hl24 : List Stmt := [stAt 24] ++ hl25
noncomputable def hm24 : Nat := 27 + hm25
theorem hr24 (w : World) (os : OsState) : topRun treeTable hpw w 11 (some (.ref 6)) hm24 (hst ht24 162 2378 w os).abs (restOf hl24 henv hcode ⟨181, 0, 181, 8⟩ [topFrame hq]) = some (hst ht32 208 2438 w os).abs :=
  @piece_app treeTable hpw w 11 (some (.ref 6)) henv hq 27 hm25 (hst ht24 162 2378 w os).abs (hst ht25 167 2384 w os).abs (hst ht32 208 2438 w os).abs [stAt 24] hl25 hcode ⟨181, 0, 181, 8⟩ ⟨182, 0, 184, 51⟩ (segRun_of (congrFun (hp24 w) os)) (hr25 w os)
noncomputable def hl23 : List Stmt := [stAt 23] ++ hl24
noncomputable def hm23 : Nat := 10 + hm24
theorem hr23 (w : World) (os : OsState) : topRun treeTable hpw w 11 (some (.ref 6)) hm23 (hst ht23 162 2376 w os).abs (restOf hl23 henv hcode ⟨176, 0, 180, 23⟩ [topFrame hq]) = some (hst ht32 208 2438 w os).abs :=
  @piece_app treeTable hpw w 11 (some (.ref 6)) henv hq 10 hm24 (hst ht23 162 2376 w os).abs (hst ht24 162 2378 w os).abs (hst ht32 208 2438 w os).abs [stAt 23] hl24 hcode ⟨176, 0, 180, 23⟩ ⟨181, 0, 181, 8⟩ (segRun_of (congrFun (hp23 w) os)) (hr24 w os)
noncomputable def hl22 : List Stmt := [stAt 22] ++ hl23
noncomputable def hm22 : Nat := 31 + hm23
theorem hr22 (w : World) (os : OsState) : topRun treeTable hpw w 11 (some (.ref 6)) hm22 (hst ht22 155 2368 w os).abs (restOf hl22 henv hcode ⟨175, 0, 175, 13⟩ [topFrame hq]) = some (hst ht32 208 2438 w os).abs :=
  @piece_app treeTable hpw w 11 (some (.ref 6)) henv hq 31 hm23 (hst ht22 155 2368 w os).abs (hst ht23 162 2376 w os).abs (hst ht32 208 2438 w os).abs [stAt 22] hl23 hcode ⟨175, 0, 175, 13⟩ ⟨176, 0, 180, 23⟩ (segRun_of (congrFun (hp22 w) os)) (hr23 w os)
noncomputable def hl21 : List Stmt := [stAt 21] ++ hl22
noncomputable def hm21 : Nat := 100 + (10 + (600 + (600 + (600 + (600 + (600 + (600 + (600 + (600 + (600 + (600 + (600 + (600 + (600 + (600 + (600 + (600 + (600 + (600 + (600 + (600 + (600 + (600 + (600 + (600 + (600 + (600 + (600 + (600 + (600 + (600 + (600 + (600 + (600 + (600 + (600 + (600 + (600 + (600 + (600 + hm22))))))))))))))))))))))))))))))))))))))))
theorem hr21 (w : World) (os : OsState) : topRun treeTable hpw w 11 (some (.ref 6)) hm21 (hst ht21 116 417 w os).abs (restOf hl21 henv hcode ⟨173, 0, 174, 30⟩ [topFrame hq]) = some (hst ht32 208 2438 w os).abs := by
  have k := hr22 w os
  unfold restOf at k ⊢
  show topRun treeTable hpw w 11 (some (.ref 6)) hm21 (hst ht21 116 417 w os).abs ⟨(execs (stAt 21 :: hl22) henv).wrap doneF (leaveH henv) id id, hcode, ⟨173, 0, 174, 30⟩, [topFrame hq]⟩ = _
  rw [execs_cons_wrap]
  exact h21 w os k
noncomputable def hl20 : List Stmt := [stAt 20] ++ hl21
noncomputable def hm20 : Nat := 30 + hm21
theorem hr20 (w : World) (os : OsState) : topRun treeTable hpw w 11 (some (.ref 6)) hm20 (hst ht20 109 410 w os).abs (restOf hl20 henv hcode ⟨172, 0, 172, 6⟩ [topFrame hq]) = some (hst ht32 208 2438 w os).abs :=
  @piece_app treeTable hpw w 11 (some (.ref 6)) henv hq 30 hm21 (hst ht20 109 410 w os).abs (hst ht21 116 417 w os).abs (hst ht32 208 2438 w os).abs [stAt 20] hl21 hcode ⟨172, 0, 172, 6⟩ ⟨173, 0, 174, 30⟩ (segRun_of (congrFun (hp20 w) os)) (hr21 w os)
noncomputable def hl19 : List Stmt := [stAt 19] ++ hl20
noncomputable def hm19 : Nat := 999 + hm20
theorem hr19 (w : World) (os : OsState) : topRun treeTable hpw w 11 (some (.ref 6)) hm19 (hst ht19 98 350 w os).abs (restOf hl19 henv hcode ⟨171, 0, 171, 8⟩ [topFrame hq]) = some (hst ht32 208 2438 w os).abs :=
  @piece_app treeTable hpw w 11 (some (.ref 6)) henv hq 999 hm20 (hst ht19 98 350 w os).abs (hst ht20 109 410 w os).abs (hst ht32 208 2438 w os).abs [stAt 19] hl20 hcode ⟨171, 0, 171, 8⟩ ⟨172, 0, 172, 6⟩ (segRun_of (congrFun (hp19 w) os)) (hr20 w os)
noncomputable def hl18 : List Stmt := [stAt 18] ++ hl19
noncomputable def hm18 : Nat := 10 + hm19
theorem hr18 (w : World) (os : OsState) : topRun treeTable hpw w 11 (some (.ref 6)) hm18 (hst ht18 98 348 w os).abs (restOf hl18 henv hcode ⟨151, 0, 170, 13⟩ [topFrame hq]) = some (hst ht32 208 2438 w os).abs :=
  @piece_app treeTable hpw w 11 (some (.ref 6)) henv hq 10 hm19 (hst ht18 98 348 w os).abs (hst ht19 98 350 w os).abs (hst ht32 208 2438 w os).abs [stAt 18] hl19 hcode ⟨151, 0, 170, 13⟩ ⟨171, 0, 171, 8⟩ (segRun_of (congrFun (hp18 w) os)) (hr19 w os)
noncomputable def hl17 : List Stmt := [stAt 17] ++ hl18
noncomputable def hm17 : Nat := 42 + hm18
theorem hr17 (w : World) (os : OsState) : topRun treeTable hpw w 11 (some (.ref 6)) hm17 (hst ht17 89 334 w os).abs (restOf hl17 henv hcode ⟨145, 0, 150, 19⟩ [topFrame hq]) = some (hst ht32 208 2438 w os).abs :=
  @piece_app treeTable hpw w 11 (some (.ref 6)) henv hq 42 hm18 (hst ht17 89 334 w os).abs (hst ht18 98 348 w os).abs (hst ht32 208 2438 w os).abs [stAt 17] hl18 hcode ⟨145, 0, 150, 19⟩ ⟨151, 0, 170, 13⟩ (segRun_of (congrFun (hp17 w) os)) (hr18 w os)
noncomputable def hl16 : List Stmt := [stAt 16] ++ hl17
noncomputable def hm16 : Nat := 41 + hm17
theorem hr16 (w : World) (os : OsState) : topRun treeTable hpw w 11 (some (.ref 6)) hm16 (hst ht16 80 321 w os).abs (restOf hl16 henv hcode ⟨125, 0, 144, 13⟩ [topFrame hq]) = some (hst ht32 208 2438 w os).abs :=
  @piece_app treeTable hpw w 11 (some (.ref 6)) henv hq 41 hm17 (hst ht16 80 321 w os).abs (hst ht17 89 334 w os).abs (hst ht32 208 2438 w os).abs [stAt 16] hl17 hcode ⟨125, 0, 144, 13⟩ ⟨145, 0, 150, 19⟩ (segRun_of (congrFun (hp16 w) os)) (hr17 w os)
noncomputable def hl15 : List Stmt := [stAt 15] ++ hl16
noncomputable def hm15 : Nat := 42 + hm16
theorem hr15 (w : World) (os : OsState) : topRun treeTable hpw w 11 (some (.ref 6)) hm15 (hst ht15 71 307 w os).abs (restOf hl15 henv hcode ⟨124, 0, 124, 8⟩ [topFrame hq]) = some (hst ht32 208 2438 w os).abs :=
  @piece_app treeTable hpw w 11 (some (.ref 6)) henv hq 42 hm16 (hst ht15 71 307 w os).abs (hst ht16 80 321 w os).abs (hst ht32 208 2438 w os).abs [stAt 15] hl16 hcode ⟨124, 0, 124, 8⟩ ⟨125, 0, 144, 13⟩ (segRun_of (congrFun (hp15 w) os)) (hr16 w os)
noncomputable def hl14 : List Stmt := [stAt 14] ++ hl15
noncomputable def hm14 : Nat := 10 + hm15
theorem hr14 (w : World) (os : OsState) : topRun treeTable hpw w 11 (some (.ref 6)) hm14 (hst ht14 71 305 w os).abs (restOf hl14 henv hcode ⟨113, 0, 123, 32⟩ [topFrame hq]) = some (hst ht32 208 2438 w os).abs :=
  @piece_app treeTable hpw w 11 (some (.ref 6)) henv hq 10 hm15 (hst ht14 71 305 w os).abs (hst ht15 71 307 w os).abs (hst ht32 208 2438 w os).abs [stAt 14] hl15 hcode ⟨113, 0, 123, 32⟩ ⟨124, 0, 124, 8⟩ (segRun_of (congrFun (hp14 w) os)) (hr15 w os)
noncomputable def hl13 : List Stmt := [stAt 13] ++ hl14
noncomputable def hm13 : Nat := 33 + hm14
theorem hr13 (w : World) (os : OsState) : topRun treeTable hpw w 11 (some (.ref 6)) hm13 (hst ht13 64 295 w os).abs (restOf hl13 henv hcode ⟨102, 0, 112, 17⟩ [topFrame hq]) = some (hst ht32 208 2438 w os).abs :=
  @piece_app treeTable hpw w 11 (some (.ref 6)) henv hq 33 hm14 (hst ht13 64 295 w os).abs (hst ht14 71 305 w os).abs (hst ht32 208 2438 w os).abs [stAt 13] hl14 hcode ⟨102, 0, 112, 17⟩ ⟨113, 0, 123, 32⟩ (segRun_of (congrFun (hp13 w) os)) (hr14 w os)
noncomputable def hl12 : List Stmt := [stAt 12] ++ hl13
noncomputable def hm12 : Nat := 38 + hm13
theorem hr12 (w : World) (os : OsState) : topRun treeTable hpw w 11 (some (.ref 6)) hm12 (hst ht12 57 280 w os).abs (restOf hl12 henv hcode ⟨93, 0, 101, 49⟩ [topFrame hq]) = some (hst ht32 208 2438 w os).abs :=
  @piece_app treeTable hpw w 11 (some (.ref 6)) henv hq 38 hm13 (hst ht12 57 280 w os).abs (hst ht13 64 295 w os).abs (hst ht32 208 2438 w os).abs [stAt 12] hl13 hcode ⟨93, 0, 101, 49⟩ ⟨102, 0, 112, 17⟩ (segRun_of (congrFun (hp12 w) os)) (hr13 w os)
noncomputable def hl11 : List Stmt := [stAt 11] ++ hl12
noncomputable def hm11 : Nat := 34 + hm12
theorem hr11 (w : World) (os : OsState) : topRun treeTable hpw w 11 (some (.ref 6)) hm11 (hst ht11 50 269 w os).abs (restOf hl11 henv hcode ⟨77, 0, 92, 19⟩ [topFrame hq]) = some (hst ht32 208 2438 w os).abs :=
  @piece_app treeTable hpw w 11 (some (.ref 6)) henv hq 34 hm12 (hst ht11 50 269 w os).abs (hst ht12 57 280 w os).abs (hst ht32 208 2438 w os).abs [stAt 11] hl12 hcode ⟨77, 0, 92, 19⟩ ⟨93, 0, 101, 49⟩ (segRun_of (congrFun (hp11 w) os)) (hr12 w os)
noncomputable def hl10 : List Stmt := [stAt 10] ++ hl11
noncomputable def hm10 : Nat := 34 + hm11
theorem hr10 (w : World) (os : OsState) : topRun treeTable hpw w 11 (some (.ref 6)) hm10 (hst ht10 43 258 w os).abs (restOf hl10 henv hcode ⟨67, 0, 76, 17⟩ [topFrame hq]) = some (hst ht32 208 2438 w os).abs :=
  @piece_app treeTable hpw w 11 (some (.ref 6)) henv hq 34 hm11 (hst ht10 43 258 w os).abs (hst ht11 50 269 w os).abs (hst ht32 208 2438 w os).abs [stAt 10] hl11 hcode ⟨67, 0, 76, 17⟩ ⟨77, 0, 92, 19⟩ (segRun_of (congrFun (hp10 w) os)) (hr11 w os)
noncomputable def hl9 : List Stmt := [stAt 9] ++ hl10
noncomputable def hm9 : Nat := 37 + hm10
theorem hr9 (w : World) (os : OsState) : topRun treeTable hpw w 11 (some (.ref 6)) hm9 (hst ht9 36 244 w os).abs (restOf hl9 henv hcode ⟨51, 0, 66, 33⟩ [topFrame hq]) = some (hst ht32 208 2438 w os).abs :=
  @piece_app treeTable hpw w 11 (some (.ref 6)) henv hq 37 hm10 (hst ht9 36 244 w os).abs (hst ht10 43 258 w os).abs (hst ht32 208 2438 w os).abs [stAt 9] hl10 hcode ⟨51, 0, 66, 33⟩ ⟨67, 0, 76, 17⟩ (segRun_of (congrFun (hp9 w) os)) (hr10 w os)
noncomputable def hl8 : List Stmt := [stAt 8] ++ hl9
noncomputable def hm8 : Nat := 40 + hm9
theorem hr8 (w : World) (os : OsState) : topRun treeTable hpw w 11 (some (.ref 6)) hm8 (hst ht8 29 227 w os).abs (restOf hl8 henv hcode ⟨50, 0, 50, 10⟩ [topFrame hq]) = some (hst ht32 208 2438 w os).abs :=
  @piece_app treeTable hpw w 11 (some (.ref 6)) henv hq 40 hm9 (hst ht8 29 227 w os).abs (hst ht9 36 244 w os).abs (hst ht32 208 2438 w os).abs [stAt 8] hl9 hcode ⟨50, 0, 50, 10⟩ ⟨51, 0, 66, 33⟩ (segRun_of (congrFun (hp8 w) os)) (hr9 w os)
noncomputable def hl7 : List Stmt := [stAt 7] ++ hl8
noncomputable def hm7 : Nat := 10 + hm8
theorem hr7 (w : World) (os : OsState) : topRun treeTable hpw w 11 (some (.ref 6)) hm7 (hst ht7 29 225 w os).abs (restOf hl7 henv hcode ⟨49, 0, 49, 8⟩ [topFrame hq]) = some (hst ht32 208 2438 w os).abs :=
  @piece_app treeTable hpw w 11 (some (.ref 6)) henv hq 10 hm8 (hst ht7 29 225 w os).abs (hst ht8 29 227 w os).abs (hst ht32 208 2438 w os).abs [stAt 7] hl8 hcode ⟨49, 0, 49, 8⟩ ⟨50, 0, 50, 10⟩ (segRun_of (congrFun (hp7 w) os)) (hr8 w os)
noncomputable def hl6 : List Stmt := [stAt 6] ++ hl7
noncomputable def hm6 : Nat := 10 + hm7
theorem hr6 (w : World) (os : OsState) : topRun treeTable hpw w 11 (some (.ref 6)) hm6 (hst ht6 29 223 w os).abs (restOf hl6 henv hcode ⟨11, 0, 48, 17⟩ [topFrame hq]) = some (hst ht32 208 2438 w os).abs :=
  @piece_app treeTable hpw w 11 (some (.ref 6)) henv hq 10 hm7 (hst ht6 29 223 w os).abs (hst ht7 29 225 w os).abs (hst ht32 208 2438 w os).abs [stAt 6] hl7 hcode ⟨11, 0, 48, 17⟩ ⟨49, 0, 49, 8⟩ (segRun_of (congrFun (hp6 w) os)) (hr7 w os)
noncomputable def hl5 : List Stmt := [stAt 5] ++ hl6
noncomputable def hm5 : Nat := 43 + hm6
theorem hr5 (w : World) (os : OsState) : topRun treeTable hpw w 11 (some (.ref 6)) hm5 (hst ht5 22 203 w os).abs (restOf hl5 henv hcode ⟨5, 0, 10, 21⟩ [topFrame hq]) = some (hst ht32 208 2438 w os).abs :=
  @piece_app treeTable hpw w 11 (some (.ref 6)) henv hq 43 hm6 (hst ht5 22 203 w os).abs (hst ht6 29 223 w os).abs (hst ht32 208 2438 w os).abs [stAt 5] hl6 hcode ⟨5, 0, 10, 21⟩ ⟨11, 0, 48, 17⟩ (segRun_of (congrFun (hp5 w) os)) (hr6 w os)
noncomputable def hl4 : List Stmt := [stAt 4] ++ hl5
noncomputable def hm4 : Nat := 31 + hm5
theorem hr4 (w : World) (os : OsState) : topRun treeTable hpw w 11 (some (.ref 6)) hm4 (hst ht4 15 195 w os).abs (restOf hl4 henv hcode ⟨4, 0, 4, 10⟩ [topFrame hq]) = some (hst ht32 208 2438 w os).abs :=
  @piece_app treeTable hpw w 11 (some (.ref 6)) henv hq 31 hm5 (hst ht4 15 195 w os).abs (hst ht5 22 203 w os).abs (hst ht32 208 2438 w os).abs [stAt 4] hl5 hcode ⟨4, 0, 4, 10⟩ ⟨5, 0, 10, 21⟩ (segRun_of (congrFun (hp4 w) os)) (hr5 w os)
noncomputable def hl3 : List Stmt := [stAt 3] ++ hl4
noncomputable def hm3 : Nat := 10 + hm4
theorem hr3 (w : World) (os : OsState) : topRun treeTable hpw w 11 (some (.ref 6)) hm3 (hst ht3 15 193 w os).abs (restOf hl3 henv hcode ⟨3, 0, 3, 10⟩ [topFrame hq]) = some (hst ht32 208 2438 w os).abs :=
  @piece_app treeTable hpw w 11 (some (.ref 6)) henv hq 10 hm4 (hst ht3 15 193 w os).abs (hst ht4 15 195 w os).abs (hst ht32 208 2438 w os).abs [stAt 3] hl4 hcode ⟨3, 0, 3, 10⟩ ⟨4, 0, 4, 10⟩ (segRun_of (congrFun (hp3 w) os)) (hr4 w os)
noncomputable def hl2 : List Stmt := [stAt 2] ++ hl3
noncomputable def hm2 : Nat := 10 + hm3
theorem hr2 (w : World) (os : OsState) : topRun treeTable hpw w 11 (some (.ref 6)) hm2 (hst ht2 15 191 w os).abs (restOf hl2 henv hcode ⟨2, 0, 2, 16⟩ [topFrame hq]) = some (hst ht32 208 2438 w os).abs :=
  @piece_app treeTable hpw w 11 (some (.ref 6)) henv hq 10 hm3 (hst ht2 15 191 w os).abs (hst ht3 15 193 w os).abs (hst ht32 208 2438 w os).abs [stAt 2] hl3 hcode ⟨2, 0, 2, 16⟩ ⟨3, 0, 3, 10⟩ (segRun_of (congrFun (hp2 w) os)) (hr3 w os)
noncomputable def hl1 : List Stmt := [stAt 1] ++ hl2
noncomputable def hm1 : Nat := 10 + hm2
theorem hr1 (w : World) (os : OsState) : topRun treeTable hpw w 11 (some (.ref 6)) hm1 (hst ht1 15 189 w os).abs (restOf hl1 henv hcode ⟨1, 0, 1, 8⟩ [topFrame hq]) = some (hst ht32 208 2438 w os).abs :=
  @piece_app treeTable hpw w 11 (some (.ref 6)) henv hq 10 hm2 (hst ht1 15 189 w os).abs (hst ht2 15 191 w os).abs (hst ht32 208 2438 w os).abs [stAt 1] hl2 hcode ⟨1, 0, 1, 8⟩ ⟨2, 0, 2, 16⟩ (segRun_of (congrFun (hp1 w) os)) (hr2 w os)
noncomputable def hl0 : List Stmt := [stAt 0] ++ hl1
noncomputable def hm0 : Nat := 10 + hm1
theorem hr0 (w : World) (os : OsState) : topRun treeTable hpw w 11 (some (.ref 6)) hm0 (hst ht0 15 187 w os).abs (restOf hl0 henv hcode ⟨0, 0, 0, 0⟩ [topFrame hq]) = some (hst ht32 208 2438 w os).abs :=
  @piece_app treeTable hpw w 11 (some (.ref 6)) henv hq 10 hm1 (hst ht0 15 187 w os).abs (hst ht1 15 189 w os).abs (hst ht32 208 2438 w os).abs [stAt 0] hl1 hcode ⟨0, 0, 0, 0⟩ ⟨1, 0, 1, 8⟩ (segRun_of (congrFun (hp0 w) os)) (hr1 w os)
theorem hbl_eq : behindTheImports hpw = hl0 := by kernel_rfl
noncomputable def hmm : Nat := 12 + (1 + hm0)
theorem hrun (w : World) (os : OsState) : topRun treeTable hpw w 11 (some (.ref 6)) hmm ⟨boot_heap w.params, Array.mk [], boot_drawn, boot_toks, os⟩ (topStub hpw) = some (hst ht32 208 2438 w os).abs :=
  @go_top treeTable hpw w 11 (some (.ref 6)) 12 (1 + hm0) ⟨boot_heap w.params, Array.mk [], boot_drawn, boot_toks, os⟩ (hst ht0 15 187 w os).abs (hst ht32 208 2438 w os).abs (topStub hpw) ⟨denote treeTable hcode, hcode, hq, [topFrame hq]⟩ (congrFun (hpre w) os)
    (@piece_block treeTable hpw w 11 (some (.ref 6)) henv hq 1 hm0 (hst ht0 15 187 w os).abs (hst ht0 15 187 w os).abs (hst ht32 208 2438 w os).abs (behindTheImports hpw) hcode hq hq (congrFun (hblock w) os) (by rw [hbl_eq]; exact hr0 w os))
theorem hx1 (w : World) : staticsOk (importedModules hpw.main.body) (boot_heap w.params) (absHeap (ht32 w.params) 208 hlife) = true := by rw [PySem.W.Fast.te5923862056798008813]; kernel_rfl
theorem hx2 (w : World) : namesBound hpw (absHeap (ht32 w.params) 208 hlife) = true := by kernel_rfl
theorem hx4 (w : World) : laidKept (boot_heap w.params) (absHeap (ht32 w.params) 208 hlife) = true := by kernel_rfl
theorem hx5 (w : World) (os : OsState) : seen ((recsOf qv).map (·.name)) (ownsOf qv) [] (⟨absHeap (ht32 w.params) 208 hlife, #[], boot_drawn, 2438, os⟩ : Shared) = expectedOf qv := by rw [PySem.W.Fast.te5160383126252970620]; kernel_rfl
theorem hx6 (w : World) : Heap.bltView (absHeap (ht32 w.params) 208 hlife) = bltViewBooted := by kernel_rfl
theorem hx7 (w : World) : Heap.keysOk (absHeap (ht32 w.params) 208 hlife) (looseW qv looseL) ((recsOf qv).map (·.name)) ((litsOf qv).map (·.1)) ((clssOf qv (looseW qv looseL)).map (·.name)) = true := by rw [PySem.W.Fast.te10880121769531294198]; kernel_rfl
theorem hx8 (w : World) : Heap.accountedOkI (absHeap (ht32 w.params) 208 hlife) (importedModules hpw.main.body) = true := by rw [PySem.W.Fast.te14722251495701143533, PySem.W.Fast.te5923862056798008813]; kernel_rfl
theorem hx9 (w : World) : (Heap.isNs (absHeap (ht32 w.params) 208 hlife) mainGlobals && Heap.isNs (absHeap (ht32 w.params) 208 hlife) builtinsNs) = true := by kernel_rfl
theorem hx11 (w : World) (os : OsState) : (xlAt qv lvL (⟨absHeap (ht32 w.params) 208 hlife, #[], boot_drawn, 2438, os⟩ : Shared) && recOk [] (⟨absHeap (ht32 w.params) 208 hlife, #[], boot_drawn, 2438, os⟩ : Shared)) = true := by kernel_rfl
theorem hx12 (w : World) (os : OsState) : tabsOk qv (⟨absHeap (ht32 w.params) 208 hlife, #[], boot_drawn, 2438, os⟩ : Shared) = true := by rw [PySem.W.Fast.te479339242167458305]; kernel_rfl
theorem hx13 (w : World) (os : OsState) : pinSeenD qv (drecsOf qv) (⟨absHeap (ht32 w.params) 208 hlife, #[], boot_drawn, 2438, os⟩ : Shared) = pinGoodD (drecsOf qv) := by rw [PySem.W.Fast.te16090120013241838585]; kernel_rfl
theorem hx14 (w : World) (os : OsState) : plainSeenE qv (looseW qv looseL) (⟨absHeap (ht32 w.params) 208 hlife, #[], boot_drawn, 2438, os⟩ : Shared) = plainGoodE qv (looseW qv looseL) := by rw [PySem.W.Fast.te2386780881361962483]; kernel_rfl
theorem hx15 (w : World) (os : OsState) : plainSeenD qv looseL (⟨absHeap (ht32 w.params) 208 hlife, #[], boot_drawn, 2438, os⟩ : Shared) = plainGoodD qv looseL := by rw [PySem.W.Fast.te11698064438423848299]; kernel_rfl
theorem hx16 (w : World) (os : OsState) : wideSeen qv (⟨absHeap (ht32 w.params) 208 hlife, #[], boot_drawn, 2438, os⟩ : Shared) = wideGood qv := by rw [PySem.W.Fast.te7317090234206586261]; kernel_rfl
theorem hx17 (w : World) (os : OsState) : clsSeenW qv looseL (⟨absHeap (ht32 w.params) 208 hlife, #[], boot_drawn, 2438, os⟩ : Shared) = clsGoodW qv looseL := by rw [PySem.W.Fast.te7369524293546568484]; kernel_rfl
theorem hx18 (w : World) (os : OsState) : Hook.obs H (⟨absHeap (ht32 w.params) 208 hlife, #[], boot_drawn, 2438, os⟩ : Shared) = Hook.val H w := by kernel_rfl
noncomputable def ascD (n : Int) : List (PyData × PyData) → Bool
  | [] => true
  | (.int k, _) :: D => decide (n < k) && ascD k D
  | _ => false
theorem has_asc (k : Int) : ∀ (D : List (PyData × PyData)) (n : Int), k ≤ n → ascD n D = true → hasIntKey k D = false
  | [], _, _, _ => rfl
  | (.int j, _) :: D, n, hn, h => by
    obtain ⟨a, b⟩ := Bool.and_eq_true_iff.mp h
    have a := of_decide_eq_true a
    have e : (j == k) = false := beq_eq_false_iff_ne.mpr fun q => by omega
    unfold hasIntKey
    rw [e, Bool.false_or]
    exact has_asc k D j (by omega) b
  | (.none, _) :: _, _, _, h | (.bool _, _) :: _, _, _, h | (.str _, _) :: _, _, _, h | (.list _, _) :: _, _, _, h | (.tuple _, _) :: _, _, _, h | (.dict _, _) :: _, _, _, h => nomatch h
theorem apart_asc : ∀ (D : List (PyData × PyData)) (n : Int), ascD n D = true → keysApartInt D = true
  | [], _, _ => rfl
  | (.int j, _) :: D, n, h => by
    obtain ⟨_, b⟩ := Bool.and_eq_true_iff.mp h
    unfold keysApartInt
    rw [has_asc j D j (Int.le_refl _) b, apart_asc D j b]
    rfl
  | (.none, _) :: _, _, h | (.bool _, _) :: _, _, h | (.str _, _) :: _, _, h | (.list _, _) :: _, _, h | (.tuple _, _) :: _, _, h | (.dict _, _) :: _, _, h => nomatch h
theorem tab_of {h : Heap} {name : Str} {D : List (PyData × PyData)} {a : Addr} {o : Obj} {es : Array DictEntry} {u : _} {n : Int} (e1 : h.nsMap mainGlobals name = some (.ref a)) (e2 : h.get? a = some o)
    (e3 : (o.cls, o.dict, o.data) = (.type "dict", none, .dict es u)) (e4 : ((o.slots.size == 0) && entriesAreInt es.toList D && (a != sysModules)) = true) (e5 : ascD n D = true) : h.tabIntOk name D = true := by
  obtain ⟨f1, f2⟩ := Prod.mk.inj e3
  obtain ⟨f2, f3⟩ := Prod.mk.inj f2
  unfold Heap.tabIntOk
  rw [e1]
  dsimp only
  rw [e2]
  dsimp only
  rw [f1, f2, f3]
  simp only [Bool.and_eq_true] at e4 ⊢
  exact ⟨⟨⟨⟨by decide, e4.1.1⟩, e4.1.2⟩, apart_asc D n e5⟩, e4.2⟩
noncomputable def D3 : List (PyData × PyData) := (tabIntOf qv "b3_exceptions").getD []
theorem hd1 : valNames qv = (["_MAX_STRING_SIZE", "_MOVE_COST", "_CASE_COST", "_DIV_LIMIT", "b1_set", "b3_exceptions"] : List Str) := by kernel_rfl
theorem hd2 : ascD (-1) D3 = true := by kernel_rfl
theorem hd3 : tabIntOf qv "b3_exceptions" = some D3 := by kernel_rfl
theorem hd4 (w : World) : (absHeap (ht32 w.params) 208 hlife).nsMap mainGlobals "b3_exceptions" = some (.ref 116) := by rw [PySem.W.Fast.te8920871248978507458]; kernel_rfl
theorem hd5 (w : World) : (absHeap (ht32 w.params) 208 hlife).get? 116 = some (b3main 38) := by kernel_rfl
theorem hd6 : ((b3main 38).cls, (b3main 38).dict, (b3main 38).data) = (.type "dict", none, .dict (b3list.take 650).toArray 650) := by kernel_rfl
theorem hd7 : (((b3main 38).slots.size == 0) && entriesAreInt (b3list.take 650).toArray.toList D3 && ((116 : Addr) != sysModules)) = true := by kernel_rfl
theorem hd8 (w : World) : ((absHeap (ht32 w.params) 208 hlife)).tabIntOk "b3_exceptions" D3 = true := tab_of (hd4 w) (hd5 w) hd6 hd7 hd2
theorem hd9 (w : World) : ((["_MAX_STRING_SIZE", "_MOVE_COST", "_CASE_COST", "_DIV_LIMIT", "b1_set"] : List Str).all fun x => (match tupIntsOf qv x with | some ns => (absHeap (ht32 w.params) 208 hlife).tupIntsOk x ns | none => true) &&
  (match tupStrsOf qv x with | some ss => (absHeap (ht32 w.params) 208 hlife).tupStrsOk x ss | none => true) && (match tabIntOf qv x with | some D => (absHeap (ht32 w.params) 208 hlife).tabIntOk x D | none => true)) = true := by kernel_rfl
theorem hda : tupIntsOf qv "b3_exceptions" = none := by kernel_rfl
theorem hdb : tupStrsOf qv "b3_exceptions" = none := by kernel_rfl
theorem hdc (w : World) : tablesOk qv (absHeap (ht32 w.params) 208 hlife) = true := by
  unfold tablesOk
  rw [hd1, List.all_eq_true]
  intro x hx
  rcases List.mem_append.mp (show x ∈ (["_MAX_STRING_SIZE", "_MOVE_COST", "_CASE_COST", "_DIV_LIMIT", "b1_set"] : List Str) ++ (["b3_exceptions"] : List Str) from hx) with h | h
  · exact List.all_eq_true.mp (hd9 w) x h
  · rw [List.mem_singleton.mp h, hda, hdb, hd3]
    dsimp only
    rw [hd8 w]
    rfl
theorem pr2 {α β : Type} {a a' : α} {b b' : β} (h : a = a') (k : b = b') : (a, b) = (a', b') := by rw [h, k]
theorem hlooks (w : World) : (fun os => ((staticsOk (importedModules hpw.main.body) (boot_heap w.params) (absHeap (ht32 w.params) 208 hlife) && namesBound hpw (absHeap (ht32 w.params) 208 hlife) && gensDone ⟨absHeap (ht32 w.params) 208 hlife, #[], boot_drawn, 2438, os⟩ && laidKept (boot_heap w.params) (absHeap (ht32 w.params) 208 hlife)),
        openSeen qv looseL (importedModules hpw.main.body) (fun s => xlAt qv lvL s && recOk [] s) true ⟨absHeap (ht32 w.params) 208 hlife, #[], boot_drawn, 2438, os⟩, Hook.obs H ⟨absHeap (ht32 w.params) 208 hlife, #[], boot_drawn, 2438, os⟩)) = fun _ => (true, openGood qv looseL, Hook.val H w) := by
  funext os
  obtain ⟨n1, n2⟩ := Bool.and_eq_true_iff.mp (hx9 w)
  refine pr2 ?_ (pr2 (pr2 (hx5 w os) (pr2 (hx6 w) (pr2 ?_ (pr2 (hx12 w os) (pr2 (hx13 w os) (pr2 (hx14 w os) (pr2 (hx15 w os) (pr2 (hx16 w os) (hx17 w os)))))))) ) (hx18 w os))
  · rw [hx1, hx2, hx4]
    rfl
  · show (_ && _ && _ && _ && _ && _ && _) = true
    rw [hx7, hx8, n1, n2, hdc]
    exact Bool.and_eq_true_iff.mpr ⟨Bool.and_eq_true_iff.mpr ⟨rfl, hx11 w os⟩, rfl⟩
theorem left0 : LeftO PySem.Challenge.pw_sn0097_01 qv looseL (fun s => xlAt qv lvL s && recOk [] s) (Hook.obs H) (Hook.val H) 28710 :=
  LeftO.of_pieces (g0 := true) (H₀ := boot_heap) (H₁ := fun P => absHeap (ht32 P) 208 hlife) hopen hsize hrun (by decide +kernel) hlooks
end
end Mine
end
namespace Mine
section
theorem fill_now : K = K ∧ PySem.Challenge.rw_sn0097_01 = PySem.Challenge.rw_sn0097_01 := by k_fill; exact ⟨rfl, rfl⟩
noncomputable abbrev pgm : Program := PySem.Challenge.pw_sn0097_01
/-- what a call of the function at f with vs gives back. wr: the made objects that the call may look at or turn; R r out: the value, and what stands written behind it. All else that stood before stands. -/
noncomputable def Core (w : World) (f : Addr) (dep : Nat) (wr : List (Addr × Obj)) (vs : List Value) (R : Value → List (Addr × Obj) → Prop) : Prop :=
  ∀ (p : Program) (loose : List Str) (mean : ExcName → Option Value) (mg mb : Str → Option Value) (dp un : Nat) (gd : Option (List Code)) (cn : Str) (cs : Scope) (a : Addr) (ccd : Value) (cl : List (Str × Addr)) (outer : List Env) (A₀ : Around) (base h₀ : Heap) (L : Addr) (m : Str → Option Value) (s : Shared) (Q E : Value → Shared → Prop),
    Below A₀ base outer h₀ → Fr h₀ L s.heap m → (K w.params).In h₀ → News h₀ L s.heap wr → Top p loose mean mg mb h₀ → cs.kind = .function → dp + dep < recursionLimit → un + 8 * dep < cLine →
    (∀ r out h' tk', R r out → Fr h₀ L h' m → News h₀ L h' out → (∀ b o, s.heap.get? b = some o → b ∉ wr.map (·.1) → h'.get? b = some o) → (∀ q ∈ out, q.1 ∈ wr.map (·.1) ∨ s.heap.get? q.1 = none) → Q r { s with heap := h', toks := tk' }) →
    wpAny (model pgm w) (ktrTop dp un gd cn cs L a ccd cl outer) (call (.ref f) vs) Q E s
theorem binds_peek {K : Frag} {s : Shared} {fd : FuncData} {args : Args} {binds : List (Str × Value)} (X : K.In s.heap) (e : ∀ S, peek K S (bindArgs fd args) = some binds) : BindsTo s fd args binds :=
  fun _ A E Q hq => Looks.of_peek X (e _) A Q E s (fun _ _ e => e) hq
section
variable {w : World} {f : Addr} {dep : Nat} {wr : List (Addr × Obj)} {vs : List Value} {R : Value → List (Addr × Obj) → Prop}
theorem core_plain {name qual : Str} {params : Arguments} {body : List Stmt} {scope : Scope} {dV kV doc pm cdv ct oc : Value} {an od : Option Addr} {osl : Array (Option Value)} {binds : List (Str × Value)}
    (ho : (K w.params).lookup f = some ⟨oc, od, .func (fnOf name qual params body scope dV kV doc pm an cdv ct), osl⟩) (hcd : codeIn (K w.params) cdv qual = true)
    (hbind : ∀ S, peek (K w.params) S (bindArgs (fnOf name qual params body scope dV kV doc pm an cdv ct) ⟨vs, []⟩) = some binds) (hloc : ∀ y ∈ binds, scope.names.lookup y.1 = some .local)
    (hdep : 1 ≤ dep) (hcell : ∀ x ∈ scope.names, x.2 ≠ .cell) (hco : scope.isCoroutine = false) (hgen : scope.isGenerator = false) (hk : scope.kind = .function)
    (h : ∀ (p : Program) (loose : List Str) (mean : ExcName → Option Value) (mg mb : Str → Option Value) (dp un : Nat) (gd : Option (List Code)) (cn : Around) (cs a ccd cl : Unit) (outer : List Env) (L : Unit) (base g : Heap) (L' : Addr) (s : Shared) (Qf : Flow → Shared → Prop) (Er : Unit),
      Fr g L' s.heap (fun y => binds.reverse.lookup y) → News g L' s.heap wr → (∀ p ∈ wr, p.1 < L') → Below cn base outer g → (K w.params).In g → Top p loose mean mg mb g → True → dp + dep < recursionLimit + 1 → un + 8 * dep < cLine + 3 →
      (∀ r out h' tk' m', R r out → Fr g L' h' m' → News g L' h' out → Qf (.ret r) { s with heap := h', toks := tk' }) →
      wpAny (model pgm w) (ktrTop dp un gd qual scope L' f cdv [] outer) (execs body (envOf qual scope L' f cdv)) Qf (fun _ _ => False) s) : Core w f dep wr vs R := by
  intro p loose mean mg mb dp un gd cn cs a ccd cl outer A₀ base h₀ L m s Q E B F X N T hkc hd hu hret
  have Xs : (K w.params).In s.heap := X.keeps F.keep
  refine wpAny_call ?_
  obtain ⟨FG, BG, st, _⟩ := groundX (A := ktrTop dp un gd cn cs L a ccd cl outer) (env := envX cn cs L a ccd cl) (R := fun _ _ => True) B F N rfl rfl hkc
  have hroom : (ktrTop dp un gd cn cs L a ccd cl outer).depth < recursionLimit := by show dp < recursionLimit; omega
  refine codeAny_call_def (fd := fnOf name qual params body scope dV kV doc pm an cdv ct) (body := body) (binds := binds) hroom (Xs _ _ ho) rfl (T.nolimit.keeps F.keep) (codeRec_of Xs hcd) rfl (binds_peek Xs hbind) hcell hloc (fun h₁ hns hk₁ => ?_) hco hgen hk
  have nm : ∀ b o, h₀.get? b = some o → b ∉ wr.map (·.1) := fun b o e q => by
    obtain ⟨x, hx, rfl⟩ := List.mem_map.mp q
    rw [(N x hx).2.2] at e; cases e
  refine wpAny_mono (E := fun _ _ => False) (h p loose mean mg mb (dp + 1) (un + 3) gd (ktrTop dp un gd cn cs L a ccd cl outer) () () () () (envX cn cs L a ccd cl :: outer) () base (hideAll s.heap (wr.map (·.1))) s.heap.objs.size { s with heap := h₁, toks := s.toks + binds.length } _ ()
    ⟨hns, fun b o e => hk₁ b o (of_hideAll _ e), Nat.le_of_eq (hideAll_size _ _)⟩
    (fun x hx => ⟨hk₁ _ _ (N x hx).1, Nat.ne_of_lt (Heap.lt_size (N x hx).1), hideAll_none _ (List.mem_map_of_mem hx)⟩)
    (fun x hx => Heap.lt_size (N x hx).1) BG (X.keeps fun b o e => st b o e) (T.keeps fun b o e => st b o e) trivial (by omega) (by omega) ?_) (fun _ _ q => q) (fun _ _ q => q.elim)
  intro r out h' tk' m' hr F' N'
  obtain ⟨oL, es, ep, hL, hLd, hLk, hLf⟩ := F.ns
  have nL : L ∉ wr.map (·.1) := fun q => by
    obtain ⟨x, hx, e⟩ := List.mem_map.mp q
    exact (N x hx).2.1 e
  have hLg := hideAll_get (wr.map (·.1)) hL nL
  refine hret r out h' tk' hr ⟨⟨oL, es, ep, F'.keep L oL hLg, hLd, hLk, hLf⟩, fun b o e => F'.keep b o (st b o e), F.above⟩ (fun x hx => ⟨(N' x hx).1, fun q => ?_, ?_⟩)
    (fun b o e hb => F'.keep b o (hideAll_get _ e hb)) (fun q hq => ?_)
  · have := (N' x hx).2.2; rw [q, hLg] at this; cases this
  · cases q : h₀.get? x.1 with
    | none => rfl
    | some o => have := (N' x hx).2.2; rw [st _ _ q] at this; cases this
  · by_cases hb : q.1 ∈ wr.map (·.1)
    · exact .inl hb
    · right
      cases e : s.heap.get? q.1 with
      | none => rfl
      | some o => have := (N' q hq).2.2; rw [hideAll_get _ e hb] at this; cases this
theorem core_cells {name qual : Str} {params : Arguments} {body : List Stmt} {scope : Scope} {dV kV doc pm cdv ct oc : Value} {an od : Option Addr} {osl : Array (Option Value)} {binds : List (Str × Value)}
    (ho : (K w.params).lookup f = some ⟨oc, od, .func (fnOf name qual params body scope dV kV doc pm an cdv ct), osl⟩) (hcd : codeIn (K w.params) cdv qual = true)
    (hbind : ∀ S, peek (K w.params) S (bindArgs (fnOf name qual params body scope dV kV doc pm an cdv ct) ⟨vs, []⟩) = some binds)
    (hkind : (binds.all fun y => scope.names.lookup y.1 == some .local || scope.names.lookup y.1 == some .cell) = true) (hnd : ((cellsFrom 0 scope.names []).map (·.1)).Nodup)
    (hdep : 1 ≤ dep) (hco : scope.isCoroutine = false) (hgen : scope.isGenerator = false) (hk : scope.kind = .function)
    (h : ∀ (p : Program) (loose : List Str) (mean : ExcName → Option Value) (mg mb : Str → Option Value) (dp un : Nat) (gd : Option (List Code)) (cn : Around) (cs a ccd cl : Unit) (outer : List Env) (L : Unit) (base g : Heap) (L' : Addr) (cells : List (Addr × Obj)) (s : Shared) (Qf : Flow → Shared → Prop) (Er : Unit),
      Fr g L' s.heap (bindL (envOfC qual scope L' f cdv).kindOf binds fun _ => none) → News g L' s.heap (cells ++ wr) →
      CellsAre (bindC (envOfC qual scope L' f cdv).kindOf binds fun _ => none) (cellsFrom (L' + 1) scope.names []) cells → (∀ p ∈ wr, p.1 < L') → Below cn base outer g → (K w.params).In g → Top p loose mean mg mb g → True → dp + dep < recursionLimit + 1 → un + 8 * dep < cLine + 3 →
      (∀ r out h' tk' m', R r out → Fr g L' h' m' → News g L' h' out → Qf (.ret r) { s with heap := h', toks := tk' }) →
      wpAny (model pgm w) (ktrTop dp un gd qual scope L' f cdv (cellsFrom (L' + 1) scope.names []) outer) (execs body (envOfC qual scope L' f cdv)) Qf (fun _ _ => False) s) : Core w f dep wr vs R := by
  intro p loose mean mg mb dp un gd cn cs a ccd cl outer A₀ base h₀ L m s Q E B F X N T hkc hd hu hret
  have Xs : (K w.params).In s.heap := X.keeps F.keep
  refine wpAny_call ?_
  obtain ⟨FG, BG, st, _⟩ := groundX (A := ktrTop dp un gd cn cs L a ccd cl outer) (env := envX cn cs L a ccd cl) (R := fun _ _ => True) B F N rfl rfl hkc
  have hroom : (ktrTop dp un gd cn cs L a ccd cl outer).depth < recursionLimit := by show dp < recursionLimit; omega
  refine codeAny_call_function (fd := fnOf name qual params body scope dV kV doc pm an cdv ct) hroom (Xs _ _ ho) rfl hco hgen rfl (codeRec_of Xs hcd) (binds_peek Xs hbind _ _ _ _ ?_)
  refine wpAny_newFunctionEnv_cells hk (kindsX hkind _) fun env' he s' x => ?_
  subst he
  refine ⟨(T.nolimit.keeps F.keep).keeps x.toInCall.keep, codeAny_func ?_⟩
  obtain ⟨h₁, tk, rfl, _⟩ := x.done
  have hk₁ := x.toInCall.keep
  obtain ⟨cells, NC, Y⟩ := Cl.news (h₀ := s.heap) (Nat.le_refl _) fun n c hm => ⟨x.cell n c (lookup_of_mem_nodup (cellsFrom_names scope.names 0 (s.heap.objs.size + 1) [] [] rfl ▸ hnd) hm), x.above n c hm⟩
  refine wpAny_mono (E := fun _ _ => False) (h p loose mean mg mb (dp + 1) (un + 3) gd (ktrTop dp un gd cn cs L a ccd cl outer) () () () () (envX cn cs L a ccd cl :: outer) () base (hideAll s.heap (wr.map (·.1))) s.heap.objs.size cells { s with heap := h₁, toks := tk } _ ()
    ⟨x.toInCall.ns, fun b o e => hk₁ b o (of_hideAll _ e), Nat.le_of_eq (hideAll_size _ _)⟩ (fun y hy => ?_) Y
    (fun x hx => Heap.lt_size (N x hx).1) BG (X.keeps fun b o e => st b o e) (T.keeps fun b o e => st b o e) trivial (by omega) (by omega) ?_) (fun _ _ q => q) (fun _ _ q => q.elim)
  · rcases List.mem_append.mp hy with hy | hy
    · refine ⟨(NC y hy).1, (NC y hy).2.1, ?_⟩
      cases q : (hideAll s.heap (wr.map (·.1))).get? y.1 with
      | none => rfl
      | some o => have := of_hideAll _ q; rw [(NC y hy).2.2] at this; cases this
    · exact ⟨hk₁ _ _ (N y hy).1, Nat.ne_of_lt (Heap.lt_size (N y hy).1), hideAll_none _ (List.mem_map_of_mem hy)⟩
  intro r out h' tk' m' hr F' N'
  obtain ⟨oL, es, ep, hL, hLd, hLk, hLf⟩ := F.ns
  have nL : L ∉ wr.map (·.1) := fun q => by
    obtain ⟨x, hx, e⟩ := List.mem_map.mp q
    exact (N x hx).2.1 e
  have hLg := hideAll_get (wr.map (·.1)) hL nL
  refine hret r out h' tk' hr ⟨⟨oL, es, ep, F'.keep L oL hLg, hLd, hLk, hLf⟩, fun b o e => F'.keep b o (st b o e), F.above⟩ (fun x hx => ⟨(N' x hx).1, fun q => ?_, ?_⟩)
    (fun b o e hb => F'.keep b o (hideAll_get _ e hb)) (fun q hq => ?_)
  · have := (N' x hx).2.2; rw [q, hLg] at this; cases this
  · cases q : h₀.get? x.1 with
    | none => rfl
    | some o => have := (N' x hx).2.2; rw [st _ _ q] at this; cases this
  · by_cases hb : q.1 ∈ wr.map (·.1)
    · exact .inl hb
    · right
      cases e : s.heap.get? q.1 with
      | none => rfl
      | some o => have := (N' q hq).2.2; rw [hideAll_get _ e hb] at this; cases this
end
/-! what a pure call gives: nothing that stood is turned; new: what is made -/
noncomputable def pure1 (R : Value → List (Addr × Obj) → Prop) (wr : List (Addr × Obj)) (r : Value) (out : List (Addr × Obj)) : Prop := ∃ new, out = new ++ wr ∧ R r new ∧ ∀ q ∈ new, q.1 ∉ wr.map (·.1)
noncomputable abbrev Spec (w : World) (f : Addr) (dep : Nat) (wr : List (Addr × Obj)) (vs : List Value) (R : Value → List (Addr × Obj) → Prop) : Prop := Core w f dep wr vs (pure1 R wr)
noncomputable def isInt (i : Int) (r : Value) (new : List (Addr × Obj)) : Prop := new = [] ∧ ∃ t, r = .int i t
noncomputable def isBool (b : Bool) (r : Value) (new : List (Addr × Obj)) : Prop := new = [] ∧ r = .bool b
noncomputable def isStr (x : Str) (r : Value) (new : List (Addr × Obj)) : Prop := new = [] ∧ ∃ t, r = .str x t
theorem of_int {i j : Int} {t : Tok} {wr : List (Addr × Obj)} (e : j = i) : pure1 (isInt i) wr (.int j t) wr := ⟨[], rfl, ⟨rfl, t, by rw [e]⟩, fun _ h => nomatch h⟩
theorem of_bool {i j : Bool} {wr : List (Addr × Obj)} (e : j = i) : pure1 (isBool i) wr (.bool j) wr := ⟨[], rfl, ⟨rfl, by rw [e]⟩, fun _ h => nomatch h⟩
theorem of_str {i j : Str} {t : Tok} {wr : List (Addr × Obj)} (e : j = i) : pure1 (isStr i) wr (.str j t) wr := ⟨[], rfl, ⟨rfl, t, by rw [e]⟩, fun _ h => nomatch h⟩
theorem sub0 {news : List (Addr × Obj)} : ∀ p ∈ ([] : List (Addr × Obj)), p ∈ news := fun _ h => nomatch h
theorem sub1 {news : List (Addr × Obj)} {x : Addr × Obj} (h : x ∈ news) : ∀ p ∈ [x], p ∈ news := fun p hp => by rw [List.mem_singleton.mp hp]; exact h
theorem subC {news l : List (Addr × Obj)} {x : Addr × Obj} (h : x ∈ news) (k : ∀ p ∈ l, p ∈ news) : ∀ p ∈ x :: l, p ∈ news := fun p hp => by
  rcases List.mem_cons.mp hp with rfl | hp
  · exact h
  · exact k p hp
section
variable {w : World} {f : Addr} {dep : Nat} {wr news : List (Addr × Obj)} {vs : List Value} {p : Program} {loose : List Str} {mean : ExcName → Option Value} {mg mb : Str → Option Value} {dp un : Nat} {gd : Option (List Code)} {cn : Str} {cs : Scope} {a : Addr} {ccd : Value} {cl : List (Str × Addr)} {outer : List Env} {A₀ : Around} {base h₀ : Heap} {L : Addr} {m : Str → Option Value} {s : Shared} {Q E : Value → Shared → Prop}
/-- the use of a pure call's contract, over the caller's own ledger -/
theorem use_any {R : Value → List (Addr × Obj) → Prop} (C : Spec w f dep wr vs R) (hs : ∀ p ∈ wr, p ∈ news) (B : Below A₀ base outer h₀) (F : Fr h₀ L s.heap m) (X : (K w.params).In h₀) (N : News h₀ L s.heap news) (T : Top p loose mean mg mb h₀) (hk : cs.kind = .function) (hd : dp + dep < recursionLimit) (hu : un + 8 * dep < cLine)
    (h : ∀ r new h' tk', R r new → Fr h₀ L h' m → News h₀ L h' (new ++ news) → (∀ q ∈ new, ∀ p ∈ news, p.1 ≠ q.1) → Q r { s with heap := h', toks := tk' }) : wpAny (model pgm w) (ktrTop dp un gd cn cs L a ccd cl outer) (call (.ref f) vs) Q E s :=
  C p loose mean mg mb dp un gd cn cs a ccd cl outer A₀ base h₀ L m s Q E B F X (fun x hx => N x (hs x hx)) T hk hd hu fun r out h' tk' hr F' N' hkeep hnew => by
    obtain ⟨new, rfl, hr, hne⟩ := hr
    have fresh : ∀ q ∈ new, s.heap.get? q.1 = none := fun q hq => (hnew q (List.mem_append_left _ hq)).resolve_left (hne q hq)
    refine h r new h' tk' hr F' (fun x hx => ?_) fun q hq x hx e => ?_
    · rcases List.mem_append.mp hx with hx | hx
      · exact N' x (List.mem_append_left _ hx)
      · refine ⟨?_, (N x hx).2⟩
        by_cases hb : x.1 ∈ wr.map (·.1)
        · obtain ⟨y, hy, e⟩ := List.mem_map.mp hb
          have e1 := (N y (hs y hy)).1
          rw [e, (N x hx).1] at e1
          have e2 := (N' y (List.mem_append_right _ hy)).1
          rw [e] at e2
          rw [e2]; exact e1.symm
        · exact hkeep _ _ (N x hx).1 hb
    · have := fresh q hq
      rw [← e, (N x hx).1] at this; cases this
theorem use_int {i : Int} (C : Spec w f dep wr vs (isInt i)) (hs : ∀ p ∈ wr, p ∈ news) (B : Below A₀ base outer h₀) (F : Fr h₀ L s.heap m) (X : (K w.params).In h₀) (N : News h₀ L s.heap news) (T : Top p loose mean mg mb h₀) (hk : cs.kind = .function) (hd : dp + dep < recursionLimit) (hu : un + 8 * dep < cLine)
    (h : ∀ t h' tk', Fr h₀ L h' m → News h₀ L h' news → Q (.int i t) { s with heap := h', toks := tk' }) : wpAny (model pgm w) (ktrTop dp un gd cn cs L a ccd cl outer) (call (.ref f) vs) Q E s :=
  use_any C hs B F X N T hk hd hu fun r new h' tk' hr F' N' _ => by
    obtain ⟨rfl, t, rfl⟩ := hr
    exact h t h' tk' F' N'
theorem use_bool {i : Bool} (C : Spec w f dep wr vs (isBool i)) (hs : ∀ p ∈ wr, p ∈ news) (B : Below A₀ base outer h₀) (F : Fr h₀ L s.heap m) (X : (K w.params).In h₀) (N : News h₀ L s.heap news) (T : Top p loose mean mg mb h₀) (hk : cs.kind = .function) (hd : dp + dep < recursionLimit) (hu : un + 8 * dep < cLine)
    (h : ∀ h' tk', Fr h₀ L h' m → News h₀ L h' news → Q (.bool i) { s with heap := h', toks := tk' }) : wpAny (model pgm w) (ktrTop dp un gd cn cs L a ccd cl outer) (call (.ref f) vs) Q E s :=
  use_any C hs B F X N T hk hd hu fun r new h' tk' hr F' N' _ => by
    obtain ⟨rfl, rfl⟩ := hr
    exact h h' tk' F' N'
theorem use_str {i : Str} (C : Spec w f dep wr vs (isStr i)) (hs : ∀ p ∈ wr, p ∈ news) (B : Below A₀ base outer h₀) (F : Fr h₀ L s.heap m) (X : (K w.params).In h₀) (N : News h₀ L s.heap news) (T : Top p loose mean mg mb h₀) (hk : cs.kind = .function) (hd : dp + dep < recursionLimit) (hu : un + 8 * dep < cLine)
    (h : ∀ t h' tk', Fr h₀ L h' m → News h₀ L h' news → Q (.str i t) { s with heap := h', toks := tk' }) : wpAny (model pgm w) (ktrTop dp un gd cn cs L a ccd cl outer) (call (.ref f) vs) Q E s :=
  use_any C hs B F X N T hk hd hu fun r new h' tk' hr F' N' _ => by
    obtain ⟨rfl, t, rfl⟩ := hr
    exact h t h' tk' F' N'
end
theorem allLt_ne {x : Addr} {l : List (Addr × Obj)} (h : AllLt x l) : ∀ p ∈ l, p.1 ≠ x := fun p hp => Nat.ne_of_lt (ktn_ltOf h p hp)
theorem news_sub {h₀ h : Heap} {L : Addr} {news wr : List (Addr × Obj)} (N : News h₀ L h news) (hs : ∀ p ∈ wr, p ∈ news) : News h₀ L h wr := fun p hp => N p (hs p hp)
end
section
section
variable {w : World} {A : Around} {E : Value → Shared → Prop} {s : Shared}
/-! the set of the unseen signs -/
noncomputable def b1es : List (Int × Value) := match (o105 { strHash := fun _ => 0, shareClass := fun _ => 0, mergeTok := id, idOf := fun _ => 0, idOfShared := fun n _ => n, followText := fun _ => true, idOfImm := fun _ => 0 }).data with
  | .set es _ _ => es.toList
  | _ => []
noncomputable def b1keys : List Int := b1es.map (·.1)
noncomputable def b1has (k : Int) : Bool := b1keys.contains k
theorem b1_setOf {P : Params} {h : Heap} (X : (K P).In h) : h.SetOf (intKind pgm w) 105 b1has 27 := by
  have h0 : h.get? 105 = some (o105 P) := X _ _ rfl
  refine ⟨_, b1es.toArray, 29, _, h0, ⟨rfl, rfl, rfl⟩, rfl, ?_, ?_, by decide, rfl, rfl⟩
  · have e : ∀ e ∈ b1es, e.2 = .int e.1 (e.2.casesOn 0 0 0 (fun _ => 0) (fun _ t => t) (fun _ _ => 0) (fun _ _ => 0) (fun _ _ => 0) (fun _ => 0) (fun _ => 0) (fun _ => 0)) ∧ e.1 = hashInt e.1 := by decide +kernel
    intro x hx
    obtain ⟨e1, e2⟩ := e x (by simpa using hx)
    refine ⟨⟨x.1, ?_, e2⟩, ?_⟩
    · rw [e1]; simp [intKind, Value.isInt]
    · rw [e1]; rfl
  · intro k
    have e : ∀ e ∈ b1es, ∃ t, e.2 = .int e.1 t := by
      have e : ∀ e ∈ b1es, e.2 = .int e.1 (e.2.casesOn 0 0 0 (fun _ => 0) (fun _ t => t) (fun _ _ => 0) (fun _ _ => 0) (fun _ _ => 0) (fun _ => 0) (fun _ => 0) (fun _ => 0)) := by decide +kernel
      exact fun x hx => ⟨_, e x hx⟩
    unfold b1has b1keys
    rw [List.contains_iff_mem, List.mem_map]
    constructor
    · rintro ⟨x, hx, rfl⟩
      obtain ⟨t, ht⟩ := e x hx
      exact ⟨x, by simpa using hx, by rw [ht]; simp [intKind, Value.isInt]⟩
    · rintro ⟨x, hx, h1⟩
      obtain ⟨t, ht⟩ := e x (by simpa using hx)
      rw [ht] at h1
      exact ⟨x, by simpa using hx, by simpa [intKind, Value.isInt] using h1⟩
theorem r_in_b1 {P : Params} {n : Int} {t : Tok} {b : Bool} {Q : Value → Shared → Prop} (X : (K P).In s.heap) (hb : b1has n = b) (h : Q (.bool b) { s with toks := s.toks + 1 }) :
    wpAny (model pgm w) A (compareOp .In (.int n t) (.ref 105)) Q E s :=
  wpAny_inSet_of (knd := intKind pgm w) (k := n) (by simp [intKind, Value.isInt]) rfl (b1_setOf X) (by rw [hb]; exact h)
/-! the table of the letters' small forms -/
noncomputable def b3find (k : Int) : Option Value := findBy Value.isInt b3list.toArray k
noncomputable def b3keysOk : Bool := b3list.all fun e => match e.key with | .int i _ => e.hash == hashInt i | _ => false
theorem b3_keys : b3keysOk = true := by decide +kernel
theorem b3_len : b3list.length = 650 := by decide +kernel
theorem b3_take : (b3list.take 650) = b3list := List.take_of_length_le (Nat.le_of_eq b3_len)
end
/-- signs -/
noncomputable def isVeil (n : Nat) : Bool := n == 8205 || n == 8288 || n == 65039
noncomputable def isLetter (n : Nat) : Bool := (65 ≤ n && n ≤ 90) || (97 ≤ n && n ≤ 122) || (119808 ≤ n && n ≤ 119833) || (119912 ≤ n && n ≤ 119937)
noncomputable def lowL (n : Nat) : Nat := if 119912 ≤ n then n - 119912 + 97 else if 119808 ≤ n then n - 119808 + 97 else if n ≤ 90 then n + 32 else n
theorem b1_0 : ∀ i < 26, b1has ((65 + i : Nat) : Int) = false ∧ b1has ((97 + i : Nat) : Int) = false ∧ b1has ((119808 + i : Nat) : Int) = false ∧ b1has ((119912 + i : Nat) : Int) = false := by decide +kernel
theorem sub_add' {n k : Nat} (h : k ≤ n) : k + (n - k) = n := by omega
theorem b1_letter {n : Nat} (h : isLetter n = true) : b1has (n : Int) = false := by
  simp only [isLetter, Bool.or_eq_true, Bool.and_eq_true, decide_eq_true_eq] at h
  rcases h with ((h | h) | h) | h
  · have := (b1_0 (n - 65) (by omega)).1
    rwa [sub_add' h.1] at this
  · have := (b1_0 (n - 97) (by omega)).2.1
    rwa [sub_add' h.1] at this
  · have := (b1_0 (n - 119808) (by omega)).2.2.1
    rwa [sub_add' h.1] at this
  · have := (b1_0 (n - 119912) (by omega)).2.2.2
    rwa [sub_add' h.1] at this
theorem b1_veil {n : Nat} (h : isVeil n = true) : b1has (n : Int) = true := by
  simp only [isVeil, Bool.or_eq_true, beq_iff_eq] at h
  rcases h with (rfl | rfl) | rfl <;> decide +kernel
noncomputable def inL (n : Int) : Bool := (65 ≤ n && n ≤ 122) || (119808 ≤ n && n ≤ 119833) || (119912 ≤ n && n ≤ 119937)
noncomputable def b3small : List (Int × Str) := b3pairs.filter fun p => inL p.1
noncomputable def b3want : List (Int × Str) := (List.range 52).map (fun i => if i < 26 then (((119808 + i : Nat) : Int), (⟨#[97 + i]⟩ : Str)) else (((119912 + (i - 26) : Nat) : Int), (⟨#[97 + (i - 26)]⟩ : Str)))
theorem b3_small : b3small = b3want := by decide +kernel
theorem find_go (k : Int) : ∀ (l : List (Int × Str)) (i : Nat), match l.find? (fun p => p.1 == k) with
    | none => (b3go i l).find? (fun e => Value.isInt k e.key) = none
    | some p => ∃ e t, (b3go i l).find? (fun e => Value.isInt k e.key) = some e ∧ e.val = .str p.2 t
  | [], i => rfl
  | (a, x) :: r, i => by
    have ih := find_go k r (i + 1)
    unfold b3go
    rw [List.find?_cons, List.find?_cons]
    show match (match (a == k) with | true => some (a, x) | false => List.find? (fun p => p.1 == k) r) with | none => _ | some p => _
    by_cases h : a = k
    · subst h
      have h1 : (a == a) = true := by simp
      have h2 : Value.isInt a (Value.int a (b3tok i)) = true := by simp [Value.isInt]
      simp only [h1, h2]
      exact ⟨_, _, rfl, rfl⟩
    · have h1 : (a == k) = false := by simpa using h
      have h2 : Value.isInt k (Value.int a (b3tok i)) = false := by simp [Value.isInt]; omega
      simp only [h1, h2]
      exact ih
theorem find_small {k : Int} (h : inL k = true) : b3pairs.find? (fun p => p.1 == k) = b3want.find? (fun p => p.1 == k) := by
  rw [← b3_small]
  unfold b3small
  rw [List.find?_filter]
  congr 1
  funext p
  by_cases q : p.1 = k
  · rw [q, h]; simp
  · have : (p.1 == k) = false := by simpa using q
    rw [this]; simp
theorem b3_of {k : Int} {x : Str} (h : inL k = true) (hw : b3want.find? (fun p => p.1 == k) = some (k, x)) : ∃ t, b3find k = some (.str x t) := by
  have q := find_go k b3pairs 0
  rw [find_small h, hw] at q
  obtain ⟨e, t, h1, h2⟩ := q
  refine ⟨t, ?_⟩
  unfold b3find findBy
  rw [← Array.find?_toList]
  show Option.map _ ((b3go 0 b3pairs).find? _) = _
  rw [h1, Option.map_some, h2]
theorem b3_no {k : Int} (h : inL k = true) (hw : b3want.find? (fun p => p.1 == k) = none) : b3find k = none := by
  have q := find_go k b3pairs 0
  rw [find_small h, hw] at q
  unfold b3find findBy
  rw [← Array.find?_toList]
  show Option.map _ ((b3go 0 b3pairs).find? _) = _
  rw [q]; rfl
theorem want_0 : ∀ i < 26, b3want.find? (fun p => p.1 == ((119808 + i : Nat) : Int)) = some (((119808 + i : Nat) : Int), ⟨#[97 + i]⟩) ∧ b3want.find? (fun p => p.1 == ((119912 + i : Nat) : Int)) = some (((119912 + i : Nat) : Int), ⟨#[97 + i]⟩) ∧
    b3want.find? (fun p => p.1 == ((65 + i : Nat) : Int)) = none ∧ b3want.find? (fun p => p.1 == ((97 + i : Nat) : Int)) = none := by decide +kernel
theorem b3_0 : ∀ i < 26, (inL ((65 + i : Nat) : Int) = true ∧ inL ((97 + i : Nat) : Int) = true ∧ inL ((119808 + i : Nat) : Int) = true ∧ inL ((119912 + i : Nat) : Int) = true) ∧ lowL (119808 + i) = 97 + i ∧ lowL (119912 + i) = 97 + i ∧ lowL (65 + i) = 97 + i ∧ lowL (97 + i) = 97 + i := by decide +kernel
theorem b3_letter {n : Nat} (h : isLetter n = true) : (b3find (n : Int) = none ∧ n ≤ 122) ∨ ∃ t, b3find (n : Int) = some (.str ⟨#[lowL n]⟩ t) := by
  simp only [isLetter, Bool.or_eq_true, Bool.and_eq_true, decide_eq_true_eq] at h
  rcases h with ((h | h) | h) | h
  · have hi : n - 65 < 26 := by omega
    have e1 := (b3_0 _ hi).1.1
    have e2 := (want_0 _ hi).2.2.1
    rw [sub_add' h.1] at e1 e2
    exact .inl ⟨b3_no e1 e2, Nat.le_trans h.2 (by decide)⟩
  · have hi : n - 97 < 26 := by omega
    have e1 := (b3_0 _ hi).1.2.1
    have e2 := (want_0 _ hi).2.2.2
    rw [sub_add' h.1] at e1 e2
    exact .inl ⟨b3_no e1 e2, h.2⟩
  · have hi : n - 119808 < 26 := by omega
    have e1 := (b3_0 _ hi).1.2.2.1
    have e2 := (want_0 _ hi).1
    have e3 := (b3_0 _ hi).2.1
    rw [← e3] at e2
    rw [sub_add' h.1] at e1 e2
    exact .inr (b3_of e1 e2)
  · have hi : n - 119912 < 26 := by omega
    have e1 := (b3_0 _ hi).1.2.2.2
    have e2 := (want_0 _ hi).2.1
    have e3 := (b3_0 _ hi).2.2.1
    rw [← e3] at e2
    rw [sub_add' h.1] at e1 e2
    exact .inr (b3_of e1 e2)
set_option maxHeartbeats 4000000 in
theorem low_one {c : Nat} (h : c < 128) : Txt.lower ⟨#[c]⟩ = ⟨#[if 65 ≤ c ∧ c ≤ 90 then c + 32 else c]⟩ :=
  (by decide +kernel : ∀ c, c < 128 → Txt.lower ⟨#[c]⟩ = ⟨#[if 65 ≤ c ∧ c ≤ 90 then c + 32 else c]⟩) c h
theorem low_0 : ∀ i < 26, Txt.lower ⟨#[65 + i]⟩ = ⟨#[97 + i]⟩ ∧ Txt.lower ⟨#[97 + i]⟩ = ⟨#[97 + i]⟩ := by decide +kernel
theorem low_letter {c : Nat} (h : isLetter c = true) (h2 : c ≤ 122) : Txt.lower ⟨#[c]⟩ = ⟨#[lowL c]⟩ := by
  simp only [isLetter, Bool.or_eq_true, Bool.and_eq_true, decide_eq_true_eq] at h
  rcases h with ((h | h) | h) | h
  · have hi : c - 65 < 26 := by omega
    have e2 := (low_0 _ hi).1
    have e3 := (b3_0 _ hi).2.2.2.1
    rw [← e3, sub_add' h.1] at e2
    exact e2
  · have hi : c - 97 < 26 := by omega
    have e2 := (low_0 _ hi).2
    have e3 := (b3_0 _ hi).2.2.2.2
    rw [sub_add' h.1] at e2 e3
    rw [e3]; exact e2
  · exact absurd (Nat.le_trans h.1 h2) (by decide)
  · exact absurd (Nat.le_trans h.1 h2) (by decide)
section
variable {w : World} {A : Around} {E : Value → Shared → Prop} {s : Shared}
theorem b3_mapOf {P : Params} {h : Heap} (X : (K P).In h) : h.MapOf (intKind pgm w) 116 b3find := by
  have h0 : h.get? 116 = some (b3main 38) := X _ _ rfl
  refine ⟨_, b3list.toArray, 650, h0, ⟨rfl, rfl, rfl⟩, ?_, ?_, fun _ => rfl⟩
  · show Data.dict (b3list.take 650).toArray 650 = _
    rw [b3_take]
  · intro e he
    have q := List.all_eq_true.mp b3_keys e (by simpa using he)
    split at q
    · rename_i i t hk
      exact ⟨i, by rw [hk]; simp [intKind, Value.isInt], by simpa [intKind] using q⟩
    · cases q
theorem r_b3_method {P : Params} {pl : Sem Bool} {Q : Value × List Value → Shared → Prop} (X : (K P).In s.heap) (h : Q (.builtin "dict.get", [.ref 116]) s) :
    wpAny (model pgm w) A (getMethod (.ref 116) "get" pl) Q E s :=
  getMethod_builtin (b3_mapOf (w := w) X).typeIs PySem.F.plainAttrs_dict PySem.F.slot_dict_get PySem.F.type_dict_get (b3_mapOf (w := w) X).noDict h
theorem r_b3_get {P : Params} {n : Int} {t : Tok} {v : Value} {Q : Value → Shared → Prop} (X : (K P).In s.heap) (hv : (b3find n).getD .none = v) (h : Q v { s with toks := s.toks + 1 }) :
    wpAny (model pgm w) A (call (.builtin "dict.get") [.ref 116, .int n t]) Q E s :=
  call_meetsIn PySem.F.slot_dict_get (b3_mapOf (w := w) X).typeIs PySem.F.entry_dict_get (PySem.F.args_dict_get_2 _ _) (meets_dict_get (intKind pgm w) 116 (k := n) (by simp [intKind, Value.isInt]) rfl) ⟨_, b3_mapOf X, by rw [hv]; exact h⟩
end
section
variable {w : World} {A : Around} {E : Value → Shared → Prop} {s : Shared}
theorem r_lower {x y : Str} {t : Tok} {Q : Value → Shared → Prop} (e : Txt.lower x = y) (hf : Builtin.Str.tooLong y.length = false) (h : ∀ t' k, Q (.str y t') { s with toks := k }) :
    wpAny (model pgm w) A (call (.builtin "str.lower") [.str x t]) Q E s := KXw.lower e (by rw [e]; exact hf) h
theorem one_eq {x y : Nat} : ((⟨#[x]⟩ : Str) == ⟨#[y]⟩) = decide (x = y) := by
  by_cases h : x = y
  · subst h; simp
  · simp [h]
theorem r_eq_ss {x y : Str} {t u : Tok} {b : Bool} {Q : Value → Shared → Prop} (e : (x == y) = b) (h : Q (.bool b) s) : wpAny (model pgm w) A (compareOp .Eq (.str x t) (.str y u)) Q E s := by
  subst e; exact PyProof.Rows.eq_str h
theorem r_truthy {x : Str} {t : Tok} {b : Bool} {Q : Bool → Shared → Prop} (n : Nat) (e : x.length = n) (hn : n < 1000) (hb : (n != 0) = b) (h : Q b { s with toks := s.toks + 1 + 1 }) : wpAny (model pgm w) A (truthy (.str x t)) Q E s := by
  subst hb
  refine PySem.P.truthy_str (by rw [e]; omega) ?_
  rw [e]
  have : ((n : Int) != 0) = (n != 0) := by
    by_cases q : n = 0
    · subst q; rfl
    · have h1 : (n != 0) = true := by simpa using q
      have h2 : ((n : Int) != 0) = true := by simpa using q
      rw [h1, h2]
  rw [this]; exact h
end
section
variable {w : World} {A : Around} {E : Value → Shared → Prop} {s : Shared}
theorem r_join2 {v p q : Nat} {t t1 t2 : Tok} {D L : Addr} {n : Nat} {h₀ : Heap} {news : List (Addr × Obj)} {Q : Value → Shared → Prop} (N : News h₀ L s.heap news) (hm : (D, listOf #[.str ⟨#[p]⟩ t1, .str ⟨#[q]⟩ t2] n) ∈ news)
    (h : ∀ t' k, Q (.str ⟨#[p, v, q]⟩ t') { s with toks := k }) : wpAny (model pgm w) A (call (.builtin "str.join") [.str ⟨#[v]⟩ t, .ref D]) Q E s := by
  refine join_listC (ys := [⟨#[p]⟩, ⟨#[q]⟩]) (N.isList hm) (by repeat constructor) (by show 1 ≤ 64; omega) (by show 1 + (1 + 0) + 2 * 64 ≤ 16777216; omega) fun t' k => ?_
  have e : Txt.join ⟨#[v]⟩ [⟨#[p]⟩, ⟨#[q]⟩] = ⟨#[p, v, q]⟩ := rfl
  rw [e]; exact h t' k
theorem r_join0_2 {p q : Nat} {t t1 t2 : Tok} {D L : Addr} {n : Nat} {h₀ : Heap} {news : List (Addr × Obj)} {Q : Value → Shared → Prop} (N : News h₀ L s.heap news) (hm : (D, listOf #[.str ⟨#[p]⟩ t1, .str ⟨#[q]⟩ t2] n) ∈ news)
    (h : ∀ t' k, Q (.str ⟨#[p, q]⟩ t') { s with toks := k }) : wpAny (model pgm w) A (call (.builtin "str.join") [.str (Str.ofString "") t, .ref D]) Q E s := by
  refine join_listC (ys := [⟨#[p]⟩, ⟨#[q]⟩]) (N.isList hm) (by repeat constructor) (by show 0 ≤ 64; omega) (by show 1 + (1 + 0) + 2 * 64 ≤ 16777216; omega) fun t' k => ?_
  have e : Txt.join (Str.ofString "") [⟨#[p]⟩, ⟨#[q]⟩] = ⟨#[p, q]⟩ := by
    have : Str.ofString "" = ⟨#[]⟩ := by decide +kernel
    rw [this]; rfl
  rw [e]; exact h t' k
theorem r_join0_3 {p q r : Nat} {t t1 t2 t3 : Tok} {D L : Addr} {n : Nat} {h₀ : Heap} {news : List (Addr × Obj)} {Q : Value → Shared → Prop} (N : News h₀ L s.heap news) (hm : (D, listOf #[.str ⟨#[p]⟩ t1, .str ⟨#[q]⟩ t2, .str ⟨#[r]⟩ t3] n) ∈ news)
    (h : ∀ t' k, Q (.str ⟨#[p, q, r]⟩ t') { s with toks := k }) : wpAny (model pgm w) A (call (.builtin "str.join") [.str (Str.ofString "") t, .ref D]) Q E s := by
  refine join_listC (ys := [⟨#[p]⟩, ⟨#[q]⟩, ⟨#[r]⟩]) (N.isList hm) (by repeat constructor) (by show 0 ≤ 64; omega) (by show 1 + (1 + (1 + 0)) + 3 * 64 ≤ 16777216; omega) fun t' k => ?_
  have e : Txt.join (Str.ofString "") [⟨#[p]⟩, ⟨#[q]⟩, ⟨#[r]⟩] = ⟨#[p, q, r]⟩ := by
    have : Str.ofString "" = ⟨#[]⟩ := by decide +kernel
    rw [this]; rfl
  rw [e]; exact h t' k
theorem r_chr {i : Int} {t : Tok} {Q : Value → Shared → Prop} (h0 : 0 ≤ i) (h1 : i ≤ 1114111) (h : Q (.str ⟨#[i.toNat]⟩ s.toks) { s with toks := s.toks + 1 }) : wpAny (model pgm w) A (call (.builtin "chr") [.int i t]) Q E s :=
  chr_of_range h0 h1 h
/-- the four forms of the alphabet -/
noncomputable def form4 (k : Int) : Int := [97, 65, 119808, 119912].getD k.toNat 0
theorem form4_le (k : Int) : 0 ≤ form4 k ∧ form4 k ≤ 119912 := by
  unfold form4
  rcases k.toNat with _ | _ | _ | _ | n <;> simp
theorem form4_chr {k x : Int} (h0 : 0 ≤ x) (h1 : x ≤ 1000) : 0 ≤ form4 k + x ∧ form4 k + x ≤ 1114111 := by
  have := form4_le k
  omega
theorem form4_mem (k : Int) (h : 0 ≤ k ∧ k < 4) : form4 k = 97 ∨ form4 k = 65 ∨ form4 k = 119808 ∨ form4 k = 119912 := by
  have : k = 0 ∨ k = 1 ∨ k = 2 ∨ k = 3 := by omega
  rcases this with rfl | rfl | rfl | rfl <;> decide
end
end
section
theorem gen_toks {α : Type} {M : Model} {A : Around} {t : Sem α} {Q : α → Shared → Prop} {E : Value → Shared → Prop} {h : Heap} {g : Array GenState} {d : Drawn} {k : Nat} {o : OsState} (H : ∀ k', wpAny M A t Q E ⟨h, g, d, k', o⟩) : wpAny M A t Q E ⟨h, g, d, k, o⟩ := H k
/-- a pair, made by the call -/
noncomputable def isPair (x y : Int) (r : Value) (new : List (Addr × Obj)) : Prop := ∃ T t1 t2, r = .ref T ∧ new = [(T, ⟨.type "tuple", none, .seq #[.int x t1, .int y t2] 0, #[]⟩)]
end
structure Stk (k : Nat) (P : Prop) : Prop where
  out : P
local macro_rules | `(tactic| walk_at "compareOp Eq str str") => `(tactic| (k_here; (with_reducible show wpAny _ _ (compareOp CmpOp.Eq (Value.str (Str.mk _) _) (Value.str (Str.mk _) _)) _ _ _); first
  | (refine r_eq_ss (b := true) (by first | exact beq_self_eq_true _ | (rw [one_eq]; exact decide_eq_true (by first | assumption | omega)) | (simp; omega)) ?_)
  | (refine r_eq_ss (b := false) (by first | (rw [one_eq]; exact decide_eq_false (by first | assumption | omega)) | (simp; omega)) ?_)))
local macro_rules | `(tactic| walk_at "truthy str") => `(tactic| (k_here; (with_reducible show wpAny _ _ (truthy (Value.str (Str.mk _) _)) _ _ _); first | (refine r_truthy (b := true) _ rfl (by decide) rfl ?_) | (refine r_truthy (b := false) _ rfl (by decide) rfl ?_)))
local macro_rules | `(tactic| walk_at "call builtin:str.join") => `(tactic| (k_here; first
  | (refine' r_join2 ?k1 ?k2 ?_; (case k1 => k_asm); (case k2 => k_mem); k_whole)
  | (refine' r_join0_2 ?k1 ?k2 ?_; (case k1 => k_asm); (case k2 => k_mem); k_whole)
  | (refine' r_join0_3 ?k1 ?k2 ?_; (case k1 => k_asm); (case k2 => k_mem); k_whole); intro _ _))
local macro_rules | `(tactic| walk_at "call builtin:chr") => `(tactic| (k_here; (with_reducible show wpAny _ _ (call (Value.builtin "chr") [Value.int _ _]) _ _ _); (refine' r_chr ?k1 ?k2 ?_; (case k1 => first | omega | exact (form4_chr (by omega) (by omega)).1); (case k2 => first | omega | exact (form4_chr (by omega) (by omega)).2))))
local macro_rules | `(tactic| walk_at "exec For Name Name") => `(tactic| (k_here; k_newsList; (rename Fr _ _ _ _ => lF'); (with_unfolding_all refine' For_invVF lF' ?k1 ?k2 ?_; (case k1 => exact rfl); (case k2 => exact rfl); k_whole)))
local macro_rules | `(tactic| walk_at "pyIter ref") => `(tactic| ((with_reducible show wpAny _ _ (pyIter (Value.ref _)) (fun it s₂ => LoopAtV _ _ _ _ _ _ _ _ _ it s₂) _ _); k_listUnr))
local macro_rules | `(tactic| walk_at "execs nil") => `(tactic| (k_here; refine gen_toks ?_; intro tk; refine wpAny_execs_nil ?_))
local macro_rules | `(tactic| walk_at "execs cons") => `(tactic| (k_here; refine gen_toks ?_; intro tk; (try k_made); (with_reducible refine wpAny_execs_cons ?_); try dsimp only))
local macro_rules | `(tactic| walk_at "call ref") => `(tactic| refine Stk.out (k := 1) ?_)
local macro_rules | `(tactic| walk_at "call type:list") => `(tactic| refine Stk.out (k := 11) ?_)
local macro_rules | `(tactic| walk_at "eval ListComp") => `(tactic| refine Stk.out (k := 15) ?_)
local macro_rules | `(tactic| walk_at "CompSrc") => `(tactic| refine Stk.out (k := 16) ?_)
local macro_rules | `(tactic| walk_at "CompSrcS") => `(tactic| refine Stk.out (k := 18) ?_)
local macro_rules | `(tactic| walk_at "CompRestT") => `(tactic| refine Stk.out (k := 19) ?_)
local macro_rules | `(tactic| walk_at "FinA") => `(tactic| refine Stk.out (k := 24) ?_)
section
section
variable {w : World} {A : Around} {E : Value → Shared → Prop} {s : Shared} {h₀ : Heap} {L : Addr} {m : Str → Option Value} {news news' : List (Addr × Obj)} {Q : Value → Shared → Prop}
theorem intsAre_of_carried : ∀ {vs : List Value} {ns : List Int}, CarriedAll vs (ns.map PyData.int) → IntsAre vs ns
  | [], [], _ => .nil
  | [], _ :: _, h => by cases h
  | _ :: _, [], h => by cases h
  | v :: vs, n :: ns, h => by
    cases h with
    | cons a b =>
      cases a with
      | int _ t => exact .cons n t (intsAre_of_carried b)
theorem r_list_range {r : Addr} {t u v : Tok} (hh : A.handled = none) (F : Fr h₀ L s.heap m) (N : News h₀ L s.heap news) (hr : IsRange s.heap r 0 26 1 t u v)
    (hQ : ∀ D h' tk (ys : List Value) c, Fr h₀ L h' m → News h₀ L h' ((D, listOf ys.toArray c) :: news) → (∀ p ∈ news, p.1 < D) → IntsAre ys (rangeInts 0 1 26) → Q (.ref D) { s with heap := h', toks := tk }) :
    wpAny (model pgm w) A (call (.type "list") [.ref r]) Q E s :=
  list_rangeD (n := 26) hh F N hr (by decide) (by decide) (by decide) fun h' tk ys F' N' hk hnone hl hnp hc => by
    obtain ⟨⟨c, hc'⟩, _⟩ := hnp
    refine hQ _ h' tk ys c F' (fun p hp => ?_) (fun p hp => Heap.lt_size (N p hp).1) (intsAre_of_carried hc)
    rcases List.mem_cons.mp hp with rfl | hp
    · refine ⟨hc', ?_, hnone⟩
      intro e
      exact absurd F.ns.lt (by rw [← e]; exact Nat.lt_irrefl _)
    · exact N' p hp
theorem ints_get : ∀ {ys : List Value} {ns : List Int} (k : Nat), IntsAre ys ns → k < ns.length → ∃ p q t, ys = p ++ (.int (ns.getD k 0) t) :: q ∧ p.length = k ∧ ys.eraseIdx k = p ++ q ∧ IntsAre (p ++ q) (ns.eraseIdx k)
  | _, _, 0, .cons n t (vs := vs) h, _ => ⟨[], vs, t, rfl, rfl, rfl, h⟩
  | _, _, k + 1, .cons n t (vs := vs) (ns := ns) h, hk => by
    obtain ⟨p, q, t', e1, e2, e3, e4⟩ := ints_get k h (by simpa using hk)
    refine ⟨.int n t :: p, q, t', ?_, by simp [e2], ?_, ?_⟩
    · rw [e1]; rfl
    · show .int n t :: vs.eraseIdx k = _
      rw [e3]; rfl
    · exact .cons n t e4
theorem r_popAt {D : Addr} {ys : List Value} {ns : List Int} {c : Nat} {i : Int} {u : Tok} (F : Fr h₀ L s.heap m) (N : News h₀ L s.heap news) (hI : IntsAre ys ns) (h0 : 0 ≤ i) (h1 : i < ns.length) (hl : ns.length ≤ 1000)
    (U : Upd D (listOf ys.toArray c) (listOf (ys.eraseIdx i.toNat).toArray (c + 1)) news news')
    (h : ∀ h' t, Fr h₀ L h' m → News h₀ L h' news' → IntsAre (ys.eraseIdx i.toNat) (ns.eraseIdx i.toNat) → Q (.int (ns.getD i.toNat 0) t) { s with heap := h' }) :
    wpAny (model pgm w) A (call (.builtin "list.pop") [.ref D, .int i u]) Q E s := by
  obtain ⟨p, q, t, e1, e2, e3, e4⟩ := ints_get i.toNat hI (by omega)
  have hlen := hI.length
  have hcut : ∀ (p q : List Value) (y : Value), kl_cut (p ++ y :: q) p.length = some (p, y, q) := by
    intro p q y
    induction p with
    | nil => rfl
    | cons a r ih => simp [kl_cut, ih]
  rw [e3] at U h
  refine kl_popAt (k := i.toNat) (p := p) (q := q) (y := .int (ns.getD i.toNat 0) t) F N ?_ ?_ ?_ U ?_ fun h' F' N' => h h' t F' N' e4
  · unfold Builtin.List.listFitsIndex; simp; omega
  · rw [List.size_toArray, hlen]; exact StrLaws.seqIndex_nonneg h0 h1
  · have := hcut p q (.int (ns.getD i.toNat 0) t)
    rw [e2, ← e1] at this
    simpa using this
  · show ys.toArray.toList.length ≤ sizeLine
    rw [PySem.sizeLine_eq]
    simp; omega
theorem r_len {D : Addr} {ys : List Value} {ns : List Int} {c : Nat} {k : Nat} (N : News h₀ L s.heap news) (hm : (D, listOf ys.toArray c) ∈ news) (hI : IntsAre ys ns) (hk : ns.length = k) (hk2 : k < 1000)
    (h : Q (.int k (s.toks + 1)) { s with toks := s.toks + 1 + 1 }) : wpAny (model pgm w) A (call (.builtin "len") [.ref D]) Q E s := by
  have e : ys.toArray.size = k := by rw [List.size_toArray, hI.length, hk]
  exact len_list (N.isList hm) (by rw [e]; omega) (by rw [e]; exact h)
end
theorem pop_lt {y : Int} {n l : Nat} (hl : n = l) (h : 0 < l) : y.fmod (l : Int) < (n : Int) := by
  rw [hl]; exact Int.fmod_lt_of_pos _ (by omega)
theorem pop_le {n l : Nat} (hl : n = l) (h : l ≤ 1000) : n ≤ 1000 := by omega
/-! the deck itself -/
noncomputable def deck0 : List Int := rangeInts 0 1 26
theorem deck_two : ∀ i < 26, ∀ j < 25, deck0.getD i 0 ∉ (deck0.eraseIdx i).eraseIdx j ∧ (deck0.eraseIdx i).getD j 0 ∉ (deck0.eraseIdx i).eraseIdx j ∧ deck0.getD i 0 ≠ (deck0.eraseIdx i).getD j 0 ∧ ((deck0.eraseIdx i).eraseIdx j).length = 24 := by decide +kernel
theorem deck_len : deck0.length = 26 := by decide +kernel
theorem deck_all : ∀ k ∈ deck0, 0 ≤ k ∧ k < 26 := by decide +kernel
theorem getD_mem {ns : List Int} {k : Nat} (h : k < ns.length) : ns.getD k 0 ∈ ns := by
  rw [List.getD_eq_getElem?_getD, List.getElem?_eq_getElem h]; exact List.getElem_mem h
theorem deck_hand {i j k : Nat} (hi : i < 26) (hj : j < 25) (hk : k < 24) :
    let a := deck0.getD i 0; let b := (deck0.eraseIdx i).getD j 0; let c := ((deck0.eraseIdx i).eraseIdx j).getD k 0
    (0 ≤ a ∧ a < 26) ∧ (0 ≤ b ∧ b < 26) ∧ (0 ≤ c ∧ c < 26) ∧ a ≠ b ∧ a ≠ c ∧ b ≠ c := by
  obtain ⟨h1, h2, h3, h4⟩ := deck_two i hi j hj
  have l1 : (deck0.eraseIdx i).length = 25 := by rw [List.length_eraseIdx_of_lt (by rw [deck_len]; exact hi), deck_len]
  have ma : deck0.getD i 0 ∈ deck0 := getD_mem (by rw [deck_len]; exact hi)
  have mb : (deck0.eraseIdx i).getD j 0 ∈ deck0 := List.mem_of_mem_eraseIdx (getD_mem (by rw [l1]; exact hj))
  have mc' : ((deck0.eraseIdx i).eraseIdx j).getD k 0 ∈ (deck0.eraseIdx i).eraseIdx j := getD_mem (by rw [h4]; exact hk)
  have mc : ((deck0.eraseIdx i).eraseIdx j).getD k 0 ∈ deck0 := List.mem_of_mem_eraseIdx (List.mem_of_mem_eraseIdx mc')
  exact ⟨deck_all _ ma, deck_all _ mb, deck_all _ mc, h3, fun e => h1 (e ▸ mc'), fun e => h2 (e ▸ mc')⟩
theorem deck_e25 {x : Int} : ((rangeInts 0 1 26).eraseIdx (x.fmod ((26 : Nat) : Int)).toNat).length = 25 := by
  have h1 : 0 ≤ x.fmod ((26 : Nat) : Int) := Int.fmod_nonneg_of_pos _ (by decide)
  have h2 : x.fmod ((26 : Nat) : Int) < 26 := Int.fmod_lt_of_pos _ (by decide)
  have : (rangeInts 0 1 26).length = 26 := deck_len
  rw [List.length_eraseIdx_of_lt (by omega), this]
theorem deck_e24 {x y : Int} : (((rangeInts 0 1 26).eraseIdx (x.fmod ((26 : Nat) : Int)).toNat).eraseIdx (y.fmod ((25 : Nat) : Int)).toNat).length = 24 := by
  have h1 : 0 ≤ y.fmod ((25 : Nat) : Int) := Int.fmod_nonneg_of_pos _ (by decide)
  have h2 : y.fmod ((25 : Nat) : Int) < 25 := Int.fmod_lt_of_pos _ (by decide)
  rw [List.length_eraseIdx_of_lt (by rw [deck_e25]; omega), deck_e25]
noncomputable def isHand3 (r : Value) (new : List (Addr × Obj)) : Prop := ∃ (D : Addr) (a b c : Int) (ta tb tc : Tok) (n : Nat), r = .ref D ∧ new = [(D, listOf #[.int a ta, .int b tb, .int c tc] n)] ∧ (0 ≤ a ∧ a < 26) ∧ (0 ≤ b ∧ b < 26) ∧ (0 ≤ c ∧ c < 26) ∧ a ≠ b ∧ a ≠ c ∧ b ≠ c
noncomputable def isHand2 (r : Value) (new : List (Addr × Obj)) : Prop := ∃ (D : Addr) (a b : Int) (ta tb : Tok) (n : Nat), r = .ref D ∧ new = [(D, listOf #[.int a ta, .int b tb] n)] ∧ (0 ≤ a ∧ a < 26) ∧ (0 ≤ b ∧ b < 26) ∧ a ≠ b
theorem hand3_ok (x y z : Int) : let a := (rangeInts 0 1 26).getD (x.fmod ((26 : Nat) : Int)).toNat 0; let b := ((rangeInts 0 1 26).eraseIdx (x.fmod ((26 : Nat) : Int)).toNat).getD (y.fmod ((25 : Nat) : Int)).toNat 0
    let c := (((rangeInts 0 1 26).eraseIdx (x.fmod ((26 : Nat) : Int)).toNat).eraseIdx (y.fmod ((25 : Nat) : Int)).toNat).getD (z.fmod ((24 : Nat) : Int)).toNat 0
    (0 ≤ a ∧ a < 26) ∧ (0 ≤ b ∧ b < 26) ∧ (0 ≤ c ∧ c < 26) ∧ a ≠ b ∧ a ≠ c ∧ b ≠ c := by
  have h1 : 0 ≤ x.fmod ((26 : Nat) : Int) := Int.fmod_nonneg_of_pos _ (by decide)
  have h2 : x.fmod ((26 : Nat) : Int) < 26 := Int.fmod_lt_of_pos _ (by decide)
  have h3 : 0 ≤ y.fmod ((25 : Nat) : Int) := Int.fmod_nonneg_of_pos _ (by decide)
  have h4 : y.fmod ((25 : Nat) : Int) < 25 := Int.fmod_lt_of_pos _ (by decide)
  have h5 : 0 ≤ z.fmod ((24 : Nat) : Int) := Int.fmod_nonneg_of_pos _ (by decide)
  have h6 : z.fmod ((24 : Nat) : Int) < 24 := Int.fmod_lt_of_pos _ (by decide)
  exact deck_hand (by omega) (by omega) (by omega)
theorem hand2_ok (x y : Int) : let a := (rangeInts 0 1 26).getD (x.fmod ((26 : Nat) : Int)).toNat 0; let b := ((rangeInts 0 1 26).eraseIdx (x.fmod ((26 : Nat) : Int)).toNat).getD (y.fmod ((25 : Nat) : Int)).toNat 0
    (0 ≤ a ∧ a < 26) ∧ (0 ≤ b ∧ b < 26) ∧ a ≠ b :=
  have h := hand3_ok x y 0
  ⟨h.1, h.2.1, h.2.2.2.1⟩
end
section
theorem fill_B1 : K = K ∧ PySem.Challenge.rw_sn0097_01 = PySem.Challenge.rw_sn0097_01 := by k_fill; exact ⟨rfl, rfl⟩
set_option maxHeartbeats 4000000 in
theorem c_b1 (w : World) (x : Nat) (tx : Tok) (b : Bool) (hb : b1has (x : Int) = b) : Spec w 115 3 [] [.str ⟨#[x]⟩ tx] (isBool b) := by
  first | k_dflt ((refine' core_plain ?zho ?zhcd ?zhb ?zhl ?zhdep ?zhcell ?zhco ?zhgen ?zhk ?_; (case zho => k_is); (case zhcd => k_is); (case zhcell => decide); (case zhb => exact fun _ => rfl); (case zhl => exact locs rfl); (case zhdep => decide); (case zhco => exact rfl); (case zhgen => exact rfl); (case zhk => exact rfl); k_whole)) | k_dflt ((refine' core_cells ?zho ?zhcd ?zhb ?zhki ?zhnd ?zhdep ?zhco ?zhgen ?zhk ?_; (case zho => k_is); (case zhcd => k_is); (case zhb => exact fun _ => rfl); (case zhki => exact rfl); (case zhnd => decide +kernel); (case zhdep => decide); (case zhco => exact rfl); (case zhgen => exact rfl); (case zhk => exact rfl); k_whole)) | fail "enter"
  intro p loose mean mg mb dp un gd cn cs a ccd cl outer L base g L' s Qf Er F N hlt B X T hk hd hu hret
  k_steps
  refine r_in_b1 (P := w.params) (by k_in) hb ?_
  k_steps
  exact hret _ _ _ _ _ (of_bool rfl) (by k_asm) (by k_asm)
end
section
local macro_rules | `(tactic| walk_at "zz0") => `(tactic| skip)
theorem fill_Bl : K = K ∧ PySem.Challenge.rw_sn0097_01 = PySem.Challenge.rw_sn0097_01 := by k_fill; exact ⟨rfl, rfl⟩
noncomputable def bl2v (u v x : Int) : Int := if u < x then (if v < x then 2 else 1) else 0
noncomputable def bl1v (u x : Int) : Int := if u < x then 1 else 0
noncomputable def br2v (u v x : Int) : Int := if v ≤ x then 2 else if u ≤ x then 1 else 0
set_option maxHeartbeats 4000000 in
theorem c_bl2 (w : World) (l : Addr) (u v x : Int) (tu tv tx : Tok) (n : Nat) (huv : u < v) : Spec w 97 3 [(l, listOf #[.int u tu, .int v tv] n)] [.ref l, .int x tx] (isInt (bl2v u v x)) := by
  first | k_dflt ((refine' core_plain ?zho ?zhcd ?zhb ?zhl ?zhdep ?zhcell ?zhco ?zhgen ?zhk ?_; (case zho => k_is); (case zhcd => k_is); (case zhcell => decide); (case zhb => exact fun _ => rfl); (case zhl => exact locs rfl); (case zhdep => decide); (case zhco => exact rfl); (case zhgen => exact rfl); (case zhk => exact rfl); k_whole)) | k_dflt ((refine' core_cells ?zho ?zhcd ?zhb ?zhki ?zhnd ?zhdep ?zhco ?zhgen ?zhk ?_; (case zho => k_is); (case zhcd => k_is); (case zhb => exact fun _ => rfl); (case zhki => exact rfl); (case zhnd => decide +kernel); (case zhdep => decide); (case zhco => exact rfl); (case zhgen => exact rfl); (case zhk => exact rfl); k_whole)) | fail "enter"
  intro p loose mean mg mb dp un gd cn cs a ccd cl outer L base g L' s Qf Er F N hlt B X T hk hd hu hret
  k_steps
  all_goals (refine hret _ _ _ _ _ (of_int ?_) (by k_asm) (by k_asm); unfold bl2v; clear hret; simp only [Int.reduceAdd, Int.reduceFDiv, Int.reduceToNat, List.getD_cons_zero, List.getD_cons_succ] at *; (repeat split) <;> omega)
set_option maxHeartbeats 4000000 in
theorem c_br2 (w : World) (l : Addr) (u v x : Int) (tu tv tx : Tok) (n : Nat) (huv : u ≤ v) : Spec w 79 3 [(l, listOf #[.int u tu, .int v tv] n)] [.ref l, .int x tx] (isInt (br2v u v x)) := by
  first | k_dflt ((refine' core_plain ?zho ?zhcd ?zhb ?zhl ?zhdep ?zhcell ?zhco ?zhgen ?zhk ?_; (case zho => k_is); (case zhcd => k_is); (case zhcell => decide); (case zhb => exact fun _ => rfl); (case zhl => exact locs rfl); (case zhdep => decide); (case zhco => exact rfl); (case zhgen => exact rfl); (case zhk => exact rfl); k_whole)) | k_dflt ((refine' core_cells ?zho ?zhcd ?zhb ?zhki ?zhnd ?zhdep ?zhco ?zhgen ?zhk ?_; (case zho => k_is); (case zhcd => k_is); (case zhb => exact fun _ => rfl); (case zhki => exact rfl); (case zhnd => decide +kernel); (case zhdep => decide); (case zhco => exact rfl); (case zhgen => exact rfl); (case zhk => exact rfl); k_whole)) | fail "enter"
  intro p loose mean mg mb dp un gd cn cs a ccd cl outer L base g L' s Qf Er F N hlt B X T hk hd hu hret
  k_steps
  all_goals (refine hret _ _ _ _ _ (of_int ?_) (by k_asm) (by k_asm); unfold br2v; clear hret; simp only [Int.reduceAdd, Int.reduceFDiv, Int.reduceToNat, List.getD_cons_zero, List.getD_cons_succ] at *; (repeat split) <;> omega)
set_option maxHeartbeats 4000000 in
theorem c_bl2i (w : World) (l : Addr) (u v x : Int) (tu tv tx t0 : Tok) (n : Nat) (huv : u < v) : Spec w 97 3 [(l, listOf #[.int u tu, .int v tv] n)] [.ref l, .int x tx, .int 0 t0, .none] (isInt (bl2v u v x)) := by
  first | k_dflt ((refine' core_plain ?zho ?zhcd ?zhb ?zhl ?zhdep ?zhcell ?zhco ?zhgen ?zhk ?_; (case zho => k_is); (case zhcd => k_is); (case zhcell => decide); (case zhb => exact fun _ => rfl); (case zhl => exact locs rfl); (case zhdep => decide); (case zhco => exact rfl); (case zhgen => exact rfl); (case zhk => exact rfl); k_whole)) | k_dflt ((refine' core_cells ?zho ?zhcd ?zhb ?zhki ?zhnd ?zhdep ?zhco ?zhgen ?zhk ?_; (case zho => k_is); (case zhcd => k_is); (case zhb => exact fun _ => rfl); (case zhki => exact rfl); (case zhnd => decide +kernel); (case zhdep => decide); (case zhco => exact rfl); (case zhgen => exact rfl); (case zhk => exact rfl); k_whole)) | fail "enter"
  intro p loose mean mg mb dp un gd cn cs a ccd cl outer L base g L' s Qf Er F N hlt B X T hk hd hu hret
  k_steps
  all_goals (refine hret _ _ _ _ _ (of_int ?_) (by k_asm) (by k_asm); unfold bl2v; clear hret; simp only [Int.reduceAdd, Int.reduceFDiv, Int.reduceToNat, List.getD_cons_zero, List.getD_cons_succ] at *; (repeat split) <;> omega)
set_option maxHeartbeats 4000000 in
theorem c_bl1i (w : World) (l : Addr) (u x : Int) (tu tx t0 : Tok) (n : Nat) : Spec w 97 3 [(l, listOf #[.int u tu] n)] [.ref l, .int x tx, .int 0 t0, .none] (isInt (bl1v u x)) := by
  first | k_dflt ((refine' core_plain ?zho ?zhcd ?zhb ?zhl ?zhdep ?zhcell ?zhco ?zhgen ?zhk ?_; (case zho => k_is); (case zhcd => k_is); (case zhcell => decide); (case zhb => exact fun _ => rfl); (case zhl => exact locs rfl); (case zhdep => decide); (case zhco => exact rfl); (case zhgen => exact rfl); (case zhk => exact rfl); k_whole)) | k_dflt ((refine' core_cells ?zho ?zhcd ?zhb ?zhki ?zhnd ?zhdep ?zhco ?zhgen ?zhk ?_; (case zho => k_is); (case zhcd => k_is); (case zhb => exact fun _ => rfl); (case zhki => exact rfl); (case zhnd => decide +kernel); (case zhdep => decide); (case zhco => exact rfl); (case zhgen => exact rfl); (case zhk => exact rfl); k_whole)) | fail "enter"
  intro p loose mean mg mb dp un gd cn cs a ccd cl outer L base g L' s Qf Er F N hlt B X T hk hd hu hret
  k_steps
  all_goals (refine hret _ _ _ _ _ (of_int ?_) (by k_asm) (by k_asm); unfold bl1v; clear hret; simp only [Int.reduceAdd, Int.reduceFDiv, Int.reduceToNat, List.getD_cons_zero, List.getD_cons_succ] at *; (repeat split) <;> omega)
set_option maxHeartbeats 4000000 in
theorem c_bl0i (w : World) (l : Addr) (x : Int) (tx t0 : Tok) (n : Nat) : Spec w 97 3 [(l, listOf #[] n)] [.ref l, .int x tx, .int 0 t0, .none] (isInt 0) := by
  first | k_dflt ((refine' core_plain ?zho ?zhcd ?zhb ?zhl ?zhdep ?zhcell ?zhco ?zhgen ?zhk ?_; (case zho => k_is); (case zhcd => k_is); (case zhcell => decide); (case zhb => exact fun _ => rfl); (case zhl => exact locs rfl); (case zhdep => decide); (case zhco => exact rfl); (case zhgen => exact rfl); (case zhk => exact rfl); k_whole)) | k_dflt ((refine' core_cells ?zho ?zhcd ?zhb ?zhki ?zhnd ?zhdep ?zhco ?zhgen ?zhk ?_; (case zho => k_is); (case zhcd => k_is); (case zhb => exact fun _ => rfl); (case zhki => exact rfl); (case zhnd => decide +kernel); (case zhdep => decide); (case zhco => exact rfl); (case zhgen => exact rfl); (case zhk => exact rfl); k_whole)) | fail "enter"
  intro p loose mean mg mb dp un gd cn cs a ccd cl outer L base g L' s Qf Er F N hlt B X T hk hd hu hret
  k_steps
  exact hret _ _ _ _ _ (of_int rfl) (by k_asm) (by k_asm)
end
section
section
variable {w : World} {f : Addr} {dep : Nat} {wr : List (Addr × Obj)} {vs : List Value} {R : Value → List (Addr × Obj) → Prop}
theorem core_next {name qual : Str} {params : Arguments} {body : List Stmt} {scope : Scope} {dV kV doc pm cdv ct oc : Value} {an od : Option Addr} {osl : Array (Option Value)} {binds : List (Str × Value)}
    (ho : (K w.params).lookup f = some ⟨oc, od, .func (fnOf name qual params body scope dV kV doc pm an cdv ct), osl⟩) (hcd : codeIn (K w.params) cdv qual = true)
    (hbind : ∀ S, peek (K w.params) S (bindArgs (fnOf name qual params body scope dV kV doc pm an cdv ct) ⟨vs, []⟩) = some binds) (hloc : ∀ y ∈ binds, scope.names.lookup y.1 = some .local)
    (hdep : 1 ≤ dep) (hcell : ∀ x ∈ scope.names, x.2 ≠ .cell) (hco : scope.isCoroutine = false) (hgen : scope.isGenerator = false) (hk : scope.kind = .function)
    (h : ∀ (p : Program) (loose : List Str) (mean : ExcName → Option Value) (mg mb : Str → Option Value) (dp un : Nat) (gd : Option (List Code)) (cn : Str) (cs : Scope) (a : Addr) (ccd : Value) (cl : List (Str × Addr)) (outer : List Env) (L : Addr) (base g : Heap) (L' : Addr) (s : Shared) (Qf : Flow → Shared → Prop) (Er : Result → Shared → Prop),
      Fr g L' s.heap (fun y => binds.reverse.lookup y) → News g L' s.heap wr → (∀ p ∈ wr, p.1 < L') → Below (ktrTop dp un gd cn cs L a ccd cl outer) base (envX cn cs L a ccd cl :: outer) g → (K w.params).In g → Top p loose mean mg mb g → cs.kind = .function → dp + dep < recursionLimit → un + 8 * dep < cLine →
      (∀ out h' tk' m', R .none out → Fr g L' h' m' → News g L' h' out → Qf .next { s with heap := h', toks := tk' }) →
      wpAny (model pgm w) ((ktrTop dp un gd cn cs L a ccd cl outer).deeper (envOf qual scope L' f cdv)) (execs body (envOf qual scope L' f cdv)) Qf (fun e s' => wpAny (model pgm w) ((ktrTop dp un gd cn cs L a ccd cl outer).deeper (envOf qual scope L' f cdv)) (leaving (envOf qual scope L' f cdv) e) (fun _ s'' => Er (.error e) s'') (fun e' s'' => Er (.error e') s'') s') s) : Core w f dep wr vs R := by
  intro p loose mean mg mb dp un gd cn cs a ccd cl outer A₀ base h₀ L m s Q E B F X N T hkc hd hu hret
  have Xs : (K w.params).In s.heap := X.keeps F.keep
  refine wpAny_call ?_
  obtain ⟨FG, BG, st, _⟩ := groundX (A := ktrTop dp un gd cn cs L a ccd cl outer) (env := envX cn cs L a ccd cl) (R := fun _ _ => True) B F N rfl rfl hkc
  have hroom : (ktrTop dp un gd cn cs L a ccd cl outer).depth < recursionLimit := by show dp < recursionLimit; omega
  refine codeAny_call_def (fd := fnOf name qual params body scope dV kV doc pm an cdv ct) (body := body) (binds := binds) hroom (Xs _ _ ho) rfl (T.nolimit.keeps F.keep) (codeRec_of Xs hcd) rfl (binds_peek Xs hbind) hcell hloc (fun h₁ hns hk₁ => ?_) hco hgen hk
  have nm : ∀ b o, h₀.get? b = some o → b ∉ wr.map (·.1) := fun b o e q => by
    obtain ⟨x, hx, rfl⟩ := List.mem_map.mp q
    rw [(N x hx).2.2] at e; cases e
  refine h p loose mean mg mb dp un gd cn cs a ccd cl outer L base (hideAll s.heap (wr.map (·.1))) s.heap.objs.size { s with heap := h₁, toks := s.toks + binds.length } _ (fun r s' => match r with | .ok (.ret v) => Q v s' | .ok _ => False | .error e => E e s')
    ⟨hns, fun b o e => hk₁ b o (of_hideAll _ e), Nat.le_of_eq (hideAll_size _ _)⟩
    (fun x hx => ⟨hk₁ _ _ (N x hx).1, Nat.ne_of_lt (Heap.lt_size (N x hx).1), hideAll_none _ (List.mem_map_of_mem hx)⟩)
    (fun x hx => Heap.lt_size (N x hx).1) BG (X.keeps fun b o e => st b o e) (T.keeps fun b o e => st b o e) hkc hd hu ?_
  intro out h' tk' m' hr F' N'
  obtain ⟨oL, es, ep, hL, hLd, hLk, hLf⟩ := F.ns
  have nL : L ∉ wr.map (·.1) := fun q => by
    obtain ⟨x, hx, e⟩ := List.mem_map.mp q
    exact (N x hx).2.1 e
  have hLg := hideAll_get (wr.map (·.1)) hL nL
  refine hret .none out h' tk' hr ⟨⟨oL, es, ep, F'.keep L oL hLg, hLd, hLk, hLf⟩, fun b o e => F'.keep b o (st b o e), F.above⟩ (fun x hx => ⟨(N' x hx).1, fun q => ?_, ?_⟩)
    (fun b o e hb => F'.keep b o (hideAll_get _ e hb)) (fun q hq => ?_)
  · have := (N' x hx).2.2; rw [q, hLg] at this; cases this
  · cases q : h₀.get? x.1 with
    | none => rfl
    | some o => have := (N' x hx).2.2; rw [st _ _ q] at this; cases this
  · by_cases hb : q.1 ∈ wr.map (·.1)
    · exact .inl hb
    · right
      cases e : s.heap.get? q.1 with
      | none => rfl
      | some o => have := (N' q hq).2.2; rw [hideAll_get _ e hb] at this; cases this
end
end
section
theorem fill_Ins : K = K ∧ PySem.Challenge.rw_sn0097_01 = PySem.Challenge.rw_sn0097_01 := by k_fill; exact ⟨rfl, rfl⟩
noncomputable def lo2 (u x : Int) : Int := if u < x then u else x
noncomputable def hi2 (u x : Int) : Int := if u < x then x else u
section
variable (w : World) (l : Addr) (u v x : Int) (tu tv tx t0 : Tok) (n : Nat)
theorem c_bl2_p0 (huv : u < v) (h : ¬ u < x) : Spec w 97 3 [(l, listOf #[.int u tu, .int v tv] n)] [.ref l, .int x tx, .int 0 t0, .none] (isInt 0) := by
  have := c_bl2i w l u v x tu tv tx t0 n huv
  rwa [show bl2v u v x = 0 by simp [bl2v, h]] at this
theorem c_bl2_p1 (huv : u < v) (h : u < x) (h' : ¬ v < x) : Spec w 97 3 [(l, listOf #[.int u tu, .int v tv] n)] [.ref l, .int x tx, .int 0 t0, .none] (isInt 1) := by
  have := c_bl2i w l u v x tu tv tx t0 n huv
  rwa [show bl2v u v x = 1 by simp [bl2v, h, h']] at this
theorem c_bl2_p2 (huv : u < v) (h : v < x) : Spec w 97 3 [(l, listOf #[.int u tu, .int v tv] n)] [.ref l, .int x tx, .int 0 t0, .none] (isInt 2) := by
  have := c_bl2i w l u v x tu tv tx t0 n huv
  rwa [show bl2v u v x = 2 by simp [bl2v, h, Int.lt_trans huv h]] at this
theorem c_bl1_p0 (h : ¬ u < x) : Spec w 97 3 [(l, listOf #[.int u tu] n)] [.ref l, .int x tx, .int 0 t0, .none] (isInt 0) := by
  have := c_bl1i w l u x tu tx t0 n
  rwa [show bl1v u x = 0 by simp [bl1v, h]] at this
theorem c_bl1_p1 (h : u < x) : Spec w 97 3 [(l, listOf #[.int u tu] n)] [.ref l, .int x tx, .int 0 t0, .none] (isInt 1) := by
  have := c_bl1i w l u x tu tx t0 n
  rwa [show bl1v u x = 1 by simp [bl1v, h]] at this
end
/-- the list at l, x put in -/
noncomputable def insR (l : Addr) (ds : List Int) (r : Value) (out : List (Addr × Obj)) : Prop := r = .none ∧ ∃ vs n, out = [(l, listOf (List.toArray vs) n)] ∧ IntsAre vs ds
set_option maxHeartbeats 4000000 in
theorem c_ins0 (w : World) (l : Addr) (x : Int) (tx : Tok) (n : Nat) : Core w 88 6 [(l, listOf #[] n)] [.ref l, .int x tx] (insR l [x]) := by
  first | k_dflt ((refine' core_next ?zho ?zhcd ?zhb ?zhl ?zhdep ?zhcell ?zhco ?zhgen ?zhk ?_; (case zho => k_is); (case zhcd => k_is); (case zhcell => decide); (case zhb => exact fun _ => rfl); (case zhl => exact locs rfl); (case zhdep => decide); (case zhco => exact rfl); (case zhgen => exact rfl); (case zhk => exact rfl); k_whole)) | k_dflt ((refine' core_plain ?zho ?zhcd ?zhb ?zhl ?zhdep ?zhcell ?zhco ?zhgen ?zhk ?_; (case zho => k_is); (case zhcd => k_is); (case zhcell => decide); (case zhb => exact fun _ => rfl); (case zhl => exact locs rfl); (case zhdep => decide); (case zhco => exact rfl); (case zhgen => exact rfl); (case zhk => exact rfl); k_whole)) | k_dflt ((refine' core_cells ?zho ?zhcd ?zhb ?zhki ?zhnd ?zhdep ?zhco ?zhgen ?zhk ?_; (case zho => k_is); (case zhcd => k_is); (case zhb => exact fun _ => rfl); (case zhki => exact rfl); (case zhnd => decide +kernel); (case zhdep => decide); (case zhco => exact rfl); (case zhgen => exact rfl); (case zhk => exact rfl); k_whole)) | fail "enter"
  intro p loose mean mg mb dp un gd cn cs a ccd cl outer L base g L' s Qf Er F N hlt B X T hk hd hu hret
  k_lt hlt
  repeat' ((first | (k_unfold; (try dsimp only)) | (k_end; kc_close) | walk1 | (dsimp only; walk1) | (leave1; walk_say "STEP leave1"; (try dsimp only)) | fail "no step") <;> (repeat' (first
    | (refine Stk.mk (k := 1) ?_; with_reducible ((k_here; k_dflt (first | (refine' use_int (c_bl2_p0 _ _ _ _ _ _ _ _ _ _ ?a0 ?a1) ?hs ?B ?F ?X ?N ?T ?hk ?hd ?hu ?_; (case N => k_asm); (case hs => exact subC (by k_mem) sub0); (case a0 => omega); (case a1 => omega); (case B => k_asm); (case F => k_asm); (case X => k_asm); (case T => k_asm); (case hk => first | exact rfl | assumption); (case hd => first | ktr_room | omega); (case hu => first | ktr_units | omega)) | (refine' use_int (c_bl2_p1 _ _ _ _ _ _ _ _ _ _ ?a0 ?a1 ?a2) ?hs ?B ?F ?X ?N ?T ?hk ?hd ?hu ?_; (case N => k_asm); (case hs => exact subC (by k_mem) sub0); (case a0 => omega); (case a1 => omega); (case a2 => omega); (case B => k_asm); (case F => k_asm); (case X => k_asm); (case T => k_asm); (case hk => first | exact rfl | assumption); (case hd => first | ktr_room | omega); (case hu => first | ktr_units | omega)) | (refine' use_int (c_bl2_p2 _ _ _ _ _ _ _ _ _ _ ?a0 ?a1) ?hs ?B ?F ?X ?N ?T ?hk ?hd ?hu ?_; (case N => k_asm); (case hs => exact subC (by k_mem) sub0); (case a0 => omega); (case a1 => omega); (case B => k_asm); (case F => k_asm); (case X => k_asm); (case T => k_asm); (case hk => first | exact rfl | assumption); (case hd => first | ktr_room | omega); (case hu => first | ktr_units | omega)) | (refine' use_int (c_bl1_p0 _ _ _ _ _ _ _ _ ?a0) ?hs ?B ?F ?X ?N ?T ?hk ?hd ?hu ?_; (case N => k_asm); (case hs => exact subC (by k_mem) sub0); (case a0 => omega); (case B => k_asm); (case F => k_asm); (case X => k_asm); (case T => k_asm); (case hk => first | exact rfl | assumption); (case hd => first | ktr_room | omega); (case hu => first | ktr_units | omega)) | (refine' use_int (c_bl1_p1 _ _ _ _ _ _ _ _ ?a0) ?hs ?B ?F ?X ?N ?T ?hk ?hd ?hu ?_; (case N => k_asm); (case hs => exact subC (by k_mem) sub0); (case a0 => omega); (case B => k_asm); (case F => k_asm); (case X => k_asm); (case T => k_asm); (case hk => first | exact rfl | assumption); (case hd => first | ktr_room | omega); (case hu => first | ktr_units | omega)) | (refine' use_int (c_bl0i _ _ _ _ _ _) ?hs ?B ?F ?X ?N ?T ?hk ?hd ?hu ?_; (case N => k_asm); (case hs => exact subC (by k_mem) sub0); (case B => k_asm); (case F => k_asm); (case X => k_asm); (case T => k_asm); (case hk => first | exact rfl | assumption); (case hd => first | ktr_room | omega); (case hu => first | ktr_units | omega))); (intro t9 h9 tk9 F9 N9); (try dsimp only); (try k_fold)))))))
  exact hret [(_, _)] _ _ _ ⟨rfl, _, _, rfl, .cons _ _ .nil⟩ (by k_asm) (news_sub (by k_asm) (subC (by k_mem) sub0))
set_option maxHeartbeats 4000000 in
theorem c_ins1 (w : World) (l : Addr) (u x : Int) (tu tx : Tok) (n : Nat) : Core w 88 6 [(l, listOf #[.int u tu] n)] [.ref l, .int x tx] (insR l [lo2 u x, hi2 u x]) := by
  by_cases h : u < x
  · rw [show lo2 u x = u by simp [lo2, h], show hi2 u x = x by simp [hi2, h]]
    first | k_dflt ((refine' core_next ?zho ?zhcd ?zhb ?zhl ?zhdep ?zhcell ?zhco ?zhgen ?zhk ?_; (case zho => k_is); (case zhcd => k_is); (case zhcell => decide); (case zhb => exact fun _ => rfl); (case zhl => exact locs rfl); (case zhdep => decide); (case zhco => exact rfl); (case zhgen => exact rfl); (case zhk => exact rfl); k_whole)) | k_dflt ((refine' core_plain ?zho ?zhcd ?zhb ?zhl ?zhdep ?zhcell ?zhco ?zhgen ?zhk ?_; (case zho => k_is); (case zhcd => k_is); (case zhcell => decide); (case zhb => exact fun _ => rfl); (case zhl => exact locs rfl); (case zhdep => decide); (case zhco => exact rfl); (case zhgen => exact rfl); (case zhk => exact rfl); k_whole)) | k_dflt ((refine' core_cells ?zho ?zhcd ?zhb ?zhki ?zhnd ?zhdep ?zhco ?zhgen ?zhk ?_; (case zho => k_is); (case zhcd => k_is); (case zhb => exact fun _ => rfl); (case zhki => exact rfl); (case zhnd => decide +kernel); (case zhdep => decide); (case zhco => exact rfl); (case zhgen => exact rfl); (case zhk => exact rfl); k_whole)) | fail "enter"
    intro p loose mean mg mb dp un gd cn cs a ccd cl outer L base g L' s Qf Er F N hlt B X T hk hd hu hret
    k_lt hlt
    repeat' ((first | (k_unfold; (try dsimp only)) | (k_end; kc_close) | walk1 | (dsimp only; walk1) | (leave1; walk_say "STEP leave1"; (try dsimp only)) | fail "no step") <;> (repeat' (first
    | (refine Stk.mk (k := 1) ?_; with_reducible ((k_here; k_dflt (first | (refine' use_int (c_bl2_p0 _ _ _ _ _ _ _ _ _ _ ?a0 ?a1) ?hs ?B ?F ?X ?N ?T ?hk ?hd ?hu ?_; (case N => k_asm); (case hs => exact subC (by k_mem) sub0); (case a0 => omega); (case a1 => omega); (case B => k_asm); (case F => k_asm); (case X => k_asm); (case T => k_asm); (case hk => first | exact rfl | assumption); (case hd => first | ktr_room | omega); (case hu => first | ktr_units | omega)) | (refine' use_int (c_bl2_p1 _ _ _ _ _ _ _ _ _ _ ?a0 ?a1 ?a2) ?hs ?B ?F ?X ?N ?T ?hk ?hd ?hu ?_; (case N => k_asm); (case hs => exact subC (by k_mem) sub0); (case a0 => omega); (case a1 => omega); (case a2 => omega); (case B => k_asm); (case F => k_asm); (case X => k_asm); (case T => k_asm); (case hk => first | exact rfl | assumption); (case hd => first | ktr_room | omega); (case hu => first | ktr_units | omega)) | (refine' use_int (c_bl2_p2 _ _ _ _ _ _ _ _ _ _ ?a0 ?a1) ?hs ?B ?F ?X ?N ?T ?hk ?hd ?hu ?_; (case N => k_asm); (case hs => exact subC (by k_mem) sub0); (case a0 => omega); (case a1 => omega); (case B => k_asm); (case F => k_asm); (case X => k_asm); (case T => k_asm); (case hk => first | exact rfl | assumption); (case hd => first | ktr_room | omega); (case hu => first | ktr_units | omega)) | (refine' use_int (c_bl1_p0 _ _ _ _ _ _ _ _ ?a0) ?hs ?B ?F ?X ?N ?T ?hk ?hd ?hu ?_; (case N => k_asm); (case hs => exact subC (by k_mem) sub0); (case a0 => omega); (case B => k_asm); (case F => k_asm); (case X => k_asm); (case T => k_asm); (case hk => first | exact rfl | assumption); (case hd => first | ktr_room | omega); (case hu => first | ktr_units | omega)) | (refine' use_int (c_bl1_p1 _ _ _ _ _ _ _ _ ?a0) ?hs ?B ?F ?X ?N ?T ?hk ?hd ?hu ?_; (case N => k_asm); (case hs => exact subC (by k_mem) sub0); (case a0 => omega); (case B => k_asm); (case F => k_asm); (case X => k_asm); (case T => k_asm); (case hk => first | exact rfl | assumption); (case hd => first | ktr_room | omega); (case hu => first | ktr_units | omega)) | (refine' use_int (c_bl0i _ _ _ _ _ _) ?hs ?B ?F ?X ?N ?T ?hk ?hd ?hu ?_; (case N => k_asm); (case hs => exact subC (by k_mem) sub0); (case B => k_asm); (case F => k_asm); (case X => k_asm); (case T => k_asm); (case hk => first | exact rfl | assumption); (case hd => first | ktr_room | omega); (case hu => first | ktr_units | omega))); (intro t9 h9 tk9 F9 N9); (try dsimp only); (try k_fold)))))))
    exact hret [(_, _)] _ _ _ ⟨rfl, _, _, rfl, .cons _ _ (.cons _ _ .nil)⟩ (by k_asm) (news_sub (by k_asm) (subC (by k_mem) sub0))
  · rw [show lo2 u x = x by simp [lo2, h], show hi2 u x = u by simp [hi2, h]]
    first | k_dflt ((refine' core_next ?zho ?zhcd ?zhb ?zhl ?zhdep ?zhcell ?zhco ?zhgen ?zhk ?_; (case zho => k_is); (case zhcd => k_is); (case zhcell => decide); (case zhb => exact fun _ => rfl); (case zhl => exact locs rfl); (case zhdep => decide); (case zhco => exact rfl); (case zhgen => exact rfl); (case zhk => exact rfl); k_whole)) | k_dflt ((refine' core_plain ?zho ?zhcd ?zhb ?zhl ?zhdep ?zhcell ?zhco ?zhgen ?zhk ?_; (case zho => k_is); (case zhcd => k_is); (case zhcell => decide); (case zhb => exact fun _ => rfl); (case zhl => exact locs rfl); (case zhdep => decide); (case zhco => exact rfl); (case zhgen => exact rfl); (case zhk => exact rfl); k_whole)) | k_dflt ((refine' core_cells ?zho ?zhcd ?zhb ?zhki ?zhnd ?zhdep ?zhco ?zhgen ?zhk ?_; (case zho => k_is); (case zhcd => k_is); (case zhb => exact fun _ => rfl); (case zhki => exact rfl); (case zhnd => decide +kernel); (case zhdep => decide); (case zhco => exact rfl); (case zhgen => exact rfl); (case zhk => exact rfl); k_whole)) | fail "enter"
    intro p loose mean mg mb dp un gd cn cs a ccd cl outer L base g L' s Qf Er F N hlt B X T hk hd hu hret
    k_lt hlt
    repeat' ((first | (k_unfold; (try dsimp only)) | (k_end; kc_close) | walk1 | (dsimp only; walk1) | (leave1; walk_say "STEP leave1"; (try dsimp only)) | fail "no step") <;> (repeat' (first
    | (refine Stk.mk (k := 1) ?_; with_reducible ((k_here; k_dflt (first | (refine' use_int (c_bl2_p0 _ _ _ _ _ _ _ _ _ _ ?a0 ?a1) ?hs ?B ?F ?X ?N ?T ?hk ?hd ?hu ?_; (case N => k_asm); (case hs => exact subC (by k_mem) sub0); (case a0 => omega); (case a1 => omega); (case B => k_asm); (case F => k_asm); (case X => k_asm); (case T => k_asm); (case hk => first | exact rfl | assumption); (case hd => first | ktr_room | omega); (case hu => first | ktr_units | omega)) | (refine' use_int (c_bl2_p1 _ _ _ _ _ _ _ _ _ _ ?a0 ?a1 ?a2) ?hs ?B ?F ?X ?N ?T ?hk ?hd ?hu ?_; (case N => k_asm); (case hs => exact subC (by k_mem) sub0); (case a0 => omega); (case a1 => omega); (case a2 => omega); (case B => k_asm); (case F => k_asm); (case X => k_asm); (case T => k_asm); (case hk => first | exact rfl | assumption); (case hd => first | ktr_room | omega); (case hu => first | ktr_units | omega)) | (refine' use_int (c_bl2_p2 _ _ _ _ _ _ _ _ _ _ ?a0 ?a1) ?hs ?B ?F ?X ?N ?T ?hk ?hd ?hu ?_; (case N => k_asm); (case hs => exact subC (by k_mem) sub0); (case a0 => omega); (case a1 => omega); (case B => k_asm); (case F => k_asm); (case X => k_asm); (case T => k_asm); (case hk => first | exact rfl | assumption); (case hd => first | ktr_room | omega); (case hu => first | ktr_units | omega)) | (refine' use_int (c_bl1_p0 _ _ _ _ _ _ _ _ ?a0) ?hs ?B ?F ?X ?N ?T ?hk ?hd ?hu ?_; (case N => k_asm); (case hs => exact subC (by k_mem) sub0); (case a0 => omega); (case B => k_asm); (case F => k_asm); (case X => k_asm); (case T => k_asm); (case hk => first | exact rfl | assumption); (case hd => first | ktr_room | omega); (case hu => first | ktr_units | omega)) | (refine' use_int (c_bl1_p1 _ _ _ _ _ _ _ _ ?a0) ?hs ?B ?F ?X ?N ?T ?hk ?hd ?hu ?_; (case N => k_asm); (case hs => exact subC (by k_mem) sub0); (case a0 => omega); (case B => k_asm); (case F => k_asm); (case X => k_asm); (case T => k_asm); (case hk => first | exact rfl | assumption); (case hd => first | ktr_room | omega); (case hu => first | ktr_units | omega)) | (refine' use_int (c_bl0i _ _ _ _ _ _) ?hs ?B ?F ?X ?N ?T ?hk ?hd ?hu ?_; (case N => k_asm); (case hs => exact subC (by k_mem) sub0); (case B => k_asm); (case F => k_asm); (case X => k_asm); (case T => k_asm); (case hk => first | exact rfl | assumption); (case hd => first | ktr_room | omega); (case hu => first | ktr_units | omega))); (intro t9 h9 tk9 F9 N9); (try dsimp only); (try k_fold)))))))
    exact hret [(_, _)] _ _ _ ⟨rfl, _, _, rfl, .cons _ _ (.cons _ _ .nil)⟩ (by k_asm) (news_sub (by k_asm) (subC (by k_mem) sub0))
set_option maxHeartbeats 4000000 in
theorem c_ins2 (w : World) (l : Addr) (u v x : Int) (tu tv tx : Tok) (n : Nat) (huv : u < v) : Core w 88 6 [(l, listOf #[.int u tu, .int v tv] n)] [.ref l, .int x tx] (insR l [lo2 u x, lo2 v (hi2 u x), hi2 v x]) := by
  by_cases h : u < x
  · by_cases h' : v < x
    · rw [show lo2 u x = u by simp [lo2, h], show hi2 u x = x by simp [hi2, h], show lo2 v x = v by simp [lo2, h'], show hi2 v x = x by simp [hi2, h']]
      first | k_dflt ((refine' core_next ?zho ?zhcd ?zhb ?zhl ?zhdep ?zhcell ?zhco ?zhgen ?zhk ?_; (case zho => k_is); (case zhcd => k_is); (case zhcell => decide); (case zhb => exact fun _ => rfl); (case zhl => exact locs rfl); (case zhdep => decide); (case zhco => exact rfl); (case zhgen => exact rfl); (case zhk => exact rfl); k_whole)) | k_dflt ((refine' core_plain ?zho ?zhcd ?zhb ?zhl ?zhdep ?zhcell ?zhco ?zhgen ?zhk ?_; (case zho => k_is); (case zhcd => k_is); (case zhcell => decide); (case zhb => exact fun _ => rfl); (case zhl => exact locs rfl); (case zhdep => decide); (case zhco => exact rfl); (case zhgen => exact rfl); (case zhk => exact rfl); k_whole)) | k_dflt ((refine' core_cells ?zho ?zhcd ?zhb ?zhki ?zhnd ?zhdep ?zhco ?zhgen ?zhk ?_; (case zho => k_is); (case zhcd => k_is); (case zhb => exact fun _ => rfl); (case zhki => exact rfl); (case zhnd => decide +kernel); (case zhdep => decide); (case zhco => exact rfl); (case zhgen => exact rfl); (case zhk => exact rfl); k_whole)) | fail "enter"
      intro p loose mean mg mb dp un gd cn cs a ccd cl outer L base g L' s Qf Er F N hlt B X T hk hd hu hret
      k_lt hlt
      repeat' ((first | (k_unfold; (try dsimp only)) | (k_end; kc_close) | walk1 | (dsimp only; walk1) | (leave1; walk_say "STEP leave1"; (try dsimp only)) | fail "no step") <;> (repeat' (first
    | (refine Stk.mk (k := 1) ?_; with_reducible ((k_here; k_dflt (first | (refine' use_int (c_bl2_p0 _ _ _ _ _ _ _ _ _ _ ?a0 ?a1) ?hs ?B ?F ?X ?N ?T ?hk ?hd ?hu ?_; (case N => k_asm); (case hs => exact subC (by k_mem) sub0); (case a0 => omega); (case a1 => omega); (case B => k_asm); (case F => k_asm); (case X => k_asm); (case T => k_asm); (case hk => first | exact rfl | assumption); (case hd => first | ktr_room | omega); (case hu => first | ktr_units | omega)) | (refine' use_int (c_bl2_p1 _ _ _ _ _ _ _ _ _ _ ?a0 ?a1 ?a2) ?hs ?B ?F ?X ?N ?T ?hk ?hd ?hu ?_; (case N => k_asm); (case hs => exact subC (by k_mem) sub0); (case a0 => omega); (case a1 => omega); (case a2 => omega); (case B => k_asm); (case F => k_asm); (case X => k_asm); (case T => k_asm); (case hk => first | exact rfl | assumption); (case hd => first | ktr_room | omega); (case hu => first | ktr_units | omega)) | (refine' use_int (c_bl2_p2 _ _ _ _ _ _ _ _ _ _ ?a0 ?a1) ?hs ?B ?F ?X ?N ?T ?hk ?hd ?hu ?_; (case N => k_asm); (case hs => exact subC (by k_mem) sub0); (case a0 => omega); (case a1 => omega); (case B => k_asm); (case F => k_asm); (case X => k_asm); (case T => k_asm); (case hk => first | exact rfl | assumption); (case hd => first | ktr_room | omega); (case hu => first | ktr_units | omega)) | (refine' use_int (c_bl1_p0 _ _ _ _ _ _ _ _ ?a0) ?hs ?B ?F ?X ?N ?T ?hk ?hd ?hu ?_; (case N => k_asm); (case hs => exact subC (by k_mem) sub0); (case a0 => omega); (case B => k_asm); (case F => k_asm); (case X => k_asm); (case T => k_asm); (case hk => first | exact rfl | assumption); (case hd => first | ktr_room | omega); (case hu => first | ktr_units | omega)) | (refine' use_int (c_bl1_p1 _ _ _ _ _ _ _ _ ?a0) ?hs ?B ?F ?X ?N ?T ?hk ?hd ?hu ?_; (case N => k_asm); (case hs => exact subC (by k_mem) sub0); (case a0 => omega); (case B => k_asm); (case F => k_asm); (case X => k_asm); (case T => k_asm); (case hk => first | exact rfl | assumption); (case hd => first | ktr_room | omega); (case hu => first | ktr_units | omega)) | (refine' use_int (c_bl0i _ _ _ _ _ _) ?hs ?B ?F ?X ?N ?T ?hk ?hd ?hu ?_; (case N => k_asm); (case hs => exact subC (by k_mem) sub0); (case B => k_asm); (case F => k_asm); (case X => k_asm); (case T => k_asm); (case hk => first | exact rfl | assumption); (case hd => first | ktr_room | omega); (case hu => first | ktr_units | omega))); (intro t9 h9 tk9 F9 N9); (try dsimp only); (try k_fold)))))))
      exact hret [(_, _)] _ _ _ ⟨rfl, _, _, rfl, .cons _ _ (.cons _ _ (.cons _ _ .nil))⟩ (by k_asm) (news_sub (by k_asm) (subC (by k_mem) sub0))
    · rw [show lo2 u x = u by simp [lo2, h], show hi2 u x = x by simp [hi2, h], show lo2 v x = x by simp [lo2, h'], show hi2 v x = v by simp [hi2, h']]
      first | k_dflt ((refine' core_next ?zho ?zhcd ?zhb ?zhl ?zhdep ?zhcell ?zhco ?zhgen ?zhk ?_; (case zho => k_is); (case zhcd => k_is); (case zhcell => decide); (case zhb => exact fun _ => rfl); (case zhl => exact locs rfl); (case zhdep => decide); (case zhco => exact rfl); (case zhgen => exact rfl); (case zhk => exact rfl); k_whole)) | k_dflt ((refine' core_plain ?zho ?zhcd ?zhb ?zhl ?zhdep ?zhcell ?zhco ?zhgen ?zhk ?_; (case zho => k_is); (case zhcd => k_is); (case zhcell => decide); (case zhb => exact fun _ => rfl); (case zhl => exact locs rfl); (case zhdep => decide); (case zhco => exact rfl); (case zhgen => exact rfl); (case zhk => exact rfl); k_whole)) | k_dflt ((refine' core_cells ?zho ?zhcd ?zhb ?zhki ?zhnd ?zhdep ?zhco ?zhgen ?zhk ?_; (case zho => k_is); (case zhcd => k_is); (case zhb => exact fun _ => rfl); (case zhki => exact rfl); (case zhnd => decide +kernel); (case zhdep => decide); (case zhco => exact rfl); (case zhgen => exact rfl); (case zhk => exact rfl); k_whole)) | fail "enter"
      intro p loose mean mg mb dp un gd cn cs a ccd cl outer L base g L' s Qf Er F N hlt B X T hk hd hu hret
      k_lt hlt
      repeat' ((first | (k_unfold; (try dsimp only)) | (k_end; kc_close) | walk1 | (dsimp only; walk1) | (leave1; walk_say "STEP leave1"; (try dsimp only)) | fail "no step") <;> (repeat' (first
    | (refine Stk.mk (k := 1) ?_; with_reducible ((k_here; k_dflt (first | (refine' use_int (c_bl2_p0 _ _ _ _ _ _ _ _ _ _ ?a0 ?a1) ?hs ?B ?F ?X ?N ?T ?hk ?hd ?hu ?_; (case N => k_asm); (case hs => exact subC (by k_mem) sub0); (case a0 => omega); (case a1 => omega); (case B => k_asm); (case F => k_asm); (case X => k_asm); (case T => k_asm); (case hk => first | exact rfl | assumption); (case hd => first | ktr_room | omega); (case hu => first | ktr_units | omega)) | (refine' use_int (c_bl2_p1 _ _ _ _ _ _ _ _ _ _ ?a0 ?a1 ?a2) ?hs ?B ?F ?X ?N ?T ?hk ?hd ?hu ?_; (case N => k_asm); (case hs => exact subC (by k_mem) sub0); (case a0 => omega); (case a1 => omega); (case a2 => omega); (case B => k_asm); (case F => k_asm); (case X => k_asm); (case T => k_asm); (case hk => first | exact rfl | assumption); (case hd => first | ktr_room | omega); (case hu => first | ktr_units | omega)) | (refine' use_int (c_bl2_p2 _ _ _ _ _ _ _ _ _ _ ?a0 ?a1) ?hs ?B ?F ?X ?N ?T ?hk ?hd ?hu ?_; (case N => k_asm); (case hs => exact subC (by k_mem) sub0); (case a0 => omega); (case a1 => omega); (case B => k_asm); (case F => k_asm); (case X => k_asm); (case T => k_asm); (case hk => first | exact rfl | assumption); (case hd => first | ktr_room | omega); (case hu => first | ktr_units | omega)) | (refine' use_int (c_bl1_p0 _ _ _ _ _ _ _ _ ?a0) ?hs ?B ?F ?X ?N ?T ?hk ?hd ?hu ?_; (case N => k_asm); (case hs => exact subC (by k_mem) sub0); (case a0 => omega); (case B => k_asm); (case F => k_asm); (case X => k_asm); (case T => k_asm); (case hk => first | exact rfl | assumption); (case hd => first | ktr_room | omega); (case hu => first | ktr_units | omega)) | (refine' use_int (c_bl1_p1 _ _ _ _ _ _ _ _ ?a0) ?hs ?B ?F ?X ?N ?T ?hk ?hd ?hu ?_; (case N => k_asm); (case hs => exact subC (by k_mem) sub0); (case a0 => omega); (case B => k_asm); (case F => k_asm); (case X => k_asm); (case T => k_asm); (case hk => first | exact rfl | assumption); (case hd => first | ktr_room | omega); (case hu => first | ktr_units | omega)) | (refine' use_int (c_bl0i _ _ _ _ _ _) ?hs ?B ?F ?X ?N ?T ?hk ?hd ?hu ?_; (case N => k_asm); (case hs => exact subC (by k_mem) sub0); (case B => k_asm); (case F => k_asm); (case X => k_asm); (case T => k_asm); (case hk => first | exact rfl | assumption); (case hd => first | ktr_room | omega); (case hu => first | ktr_units | omega))); (intro t9 h9 tk9 F9 N9); (try dsimp only); (try k_fold)))))))
      exact hret [(_, _)] _ _ _ ⟨rfl, _, _, rfl, .cons _ _ (.cons _ _ (.cons _ _ .nil))⟩ (by k_asm) (news_sub (by k_asm) (subC (by k_mem) sub0))
  · rw [show lo2 u x = x by simp [lo2, h], show hi2 u x = u by simp [hi2, h], show lo2 v u = u by simp [lo2]; omega, show hi2 v x = v by simp [hi2]; omega]
    first | k_dflt ((refine' core_next ?zho ?zhcd ?zhb ?zhl ?zhdep ?zhcell ?zhco ?zhgen ?zhk ?_; (case zho => k_is); (case zhcd => k_is); (case zhcell => decide); (case zhb => exact fun _ => rfl); (case zhl => exact locs rfl); (case zhdep => decide); (case zhco => exact rfl); (case zhgen => exact rfl); (case zhk => exact rfl); k_whole)) | k_dflt ((refine' core_plain ?zho ?zhcd ?zhb ?zhl ?zhdep ?zhcell ?zhco ?zhgen ?zhk ?_; (case zho => k_is); (case zhcd => k_is); (case zhcell => decide); (case zhb => exact fun _ => rfl); (case zhl => exact locs rfl); (case zhdep => decide); (case zhco => exact rfl); (case zhgen => exact rfl); (case zhk => exact rfl); k_whole)) | k_dflt ((refine' core_cells ?zho ?zhcd ?zhb ?zhki ?zhnd ?zhdep ?zhco ?zhgen ?zhk ?_; (case zho => k_is); (case zhcd => k_is); (case zhb => exact fun _ => rfl); (case zhki => exact rfl); (case zhnd => decide +kernel); (case zhdep => decide); (case zhco => exact rfl); (case zhgen => exact rfl); (case zhk => exact rfl); k_whole)) | fail "enter"
    intro p loose mean mg mb dp un gd cn cs a ccd cl outer L base g L' s Qf Er F N hlt B X T hk hd hu hret
    k_lt hlt
    repeat' ((first | (k_unfold; (try dsimp only)) | (k_end; kc_close) | walk1 | (dsimp only; walk1) | (leave1; walk_say "STEP leave1"; (try dsimp only)) | fail "no step") <;> (repeat' (first
    | (refine Stk.mk (k := 1) ?_; with_reducible ((k_here; k_dflt (first | (refine' use_int (c_bl2_p0 _ _ _ _ _ _ _ _ _ _ ?a0 ?a1) ?hs ?B ?F ?X ?N ?T ?hk ?hd ?hu ?_; (case N => k_asm); (case hs => exact subC (by k_mem) sub0); (case a0 => omega); (case a1 => omega); (case B => k_asm); (case F => k_asm); (case X => k_asm); (case T => k_asm); (case hk => first | exact rfl | assumption); (case hd => first | ktr_room | omega); (case hu => first | ktr_units | omega)) | (refine' use_int (c_bl2_p1 _ _ _ _ _ _ _ _ _ _ ?a0 ?a1 ?a2) ?hs ?B ?F ?X ?N ?T ?hk ?hd ?hu ?_; (case N => k_asm); (case hs => exact subC (by k_mem) sub0); (case a0 => omega); (case a1 => omega); (case a2 => omega); (case B => k_asm); (case F => k_asm); (case X => k_asm); (case T => k_asm); (case hk => first | exact rfl | assumption); (case hd => first | ktr_room | omega); (case hu => first | ktr_units | omega)) | (refine' use_int (c_bl2_p2 _ _ _ _ _ _ _ _ _ _ ?a0 ?a1) ?hs ?B ?F ?X ?N ?T ?hk ?hd ?hu ?_; (case N => k_asm); (case hs => exact subC (by k_mem) sub0); (case a0 => omega); (case a1 => omega); (case B => k_asm); (case F => k_asm); (case X => k_asm); (case T => k_asm); (case hk => first | exact rfl | assumption); (case hd => first | ktr_room | omega); (case hu => first | ktr_units | omega)) | (refine' use_int (c_bl1_p0 _ _ _ _ _ _ _ _ ?a0) ?hs ?B ?F ?X ?N ?T ?hk ?hd ?hu ?_; (case N => k_asm); (case hs => exact subC (by k_mem) sub0); (case a0 => omega); (case B => k_asm); (case F => k_asm); (case X => k_asm); (case T => k_asm); (case hk => first | exact rfl | assumption); (case hd => first | ktr_room | omega); (case hu => first | ktr_units | omega)) | (refine' use_int (c_bl1_p1 _ _ _ _ _ _ _ _ ?a0) ?hs ?B ?F ?X ?N ?T ?hk ?hd ?hu ?_; (case N => k_asm); (case hs => exact subC (by k_mem) sub0); (case a0 => omega); (case B => k_asm); (case F => k_asm); (case X => k_asm); (case T => k_asm); (case hk => first | exact rfl | assumption); (case hd => first | ktr_room | omega); (case hu => first | ktr_units | omega)) | (refine' use_int (c_bl0i _ _ _ _ _ _) ?hs ?B ?F ?X ?N ?T ?hk ?hd ?hu ?_; (case N => k_asm); (case hs => exact subC (by k_mem) sub0); (case B => k_asm); (case F => k_asm); (case X => k_asm); (case T => k_asm); (case hk => first | exact rfl | assumption); (case hd => first | ktr_room | omega); (case hu => first | ktr_units | omega))); (intro t9 h9 tk9 F9 N9); (try dsimp only); (try k_fold)))))))
    exact hret [(_, _)] _ _ _ ⟨rfl, _, _, rfl, .cons _ _ (.cons _ _ (.cons _ _ .nil))⟩ (by k_asm) (news_sub (by k_asm) (subC (by k_mem) sub0))
end
section
local macro_rules | `(tactic| walk_at "zz0") => `(tactic| skip)
theorem fill_D2 : K = K ∧ PySem.Challenge.rw_sn0097_01 = PySem.Challenge.rw_sn0097_01 := by k_fill; exact ⟨rfl, rfl⟩
theorem bits_lt {a : Int} {m k : Nat} (e : 2 ^ m = k) (h0 : 0 ≤ a) (h : a < k) : ((Builtin.Int.intBits a : Nat) : Int) ≤ m := by
  have := (intBits_le_iff (m := m) (x := a)).mpr (by rw [e]; omega)
  omega
set_option maxHeartbeats 4000000 in
theorem c_d2 (w : World) (a : Int) (ta tb tn : Tok) (ha : 0 ≤ a ∧ a < 16) : Spec w 35 3 [] [.int a ta, .int 3 tb, .int 2 tn] (isPair (a.fdiv 3) (a.fmod 3)) := by
  first | k_dflt ((refine' core_plain ?zho ?zhcd ?zhb ?zhl ?zhdep ?zhcell ?zhco ?zhgen ?zhk ?_; (case zho => k_is); (case zhcd => k_is); (case zhcell => decide); (case zhb => exact fun _ => rfl); (case zhl => exact locs rfl); (case zhdep => decide); (case zhco => exact rfl); (case zhgen => exact rfl); (case zhk => exact rfl); k_whole)) | k_dflt ((refine' core_cells ?zho ?zhcd ?zhb ?zhki ?zhnd ?zhdep ?zhco ?zhgen ?zhk ?_; (case zho => k_is); (case zhcd => k_is); (case zhb => exact fun _ => rfl); (case zhki => exact rfl); (case zhnd => decide +kernel); (case zhdep => decide); (case zhco => exact rfl); (case zhgen => exact rfl); (case zhk => exact rfl); k_whole)) | fail "enter"
  intro p loose mean mg mb dp un gd cn cs a ccd cl outer L base g L' s Qf Er F N hlt B X T hk hd hu hret
  have hb := bits_lt (m := 4) (k := 16) rfl ha.1 ha.2
  k_steps
  · exact hret _ [(_, _)] _ _ _ ⟨_, rfl, ⟨_, _, _, rfl, rfl⟩, fun _ _ h => nomatch h⟩ (by k_asm) (by k_asm)
end
section
open PySem PySem.W PyProof.Rows PySem.Calls PySem.Spec
/-- the code table at P: still empty, or with the inner def's code x in it -/
noncomputable def St (P : Addr) (l c : Nat) (q : Str) (o : Obj) (x : Addr) (ox : Obj) : Prop :=
  o = tabObj #[] ∨ (o = tabObj (#[] ++ #[rawInt (l : Nat), rawInt (c : Nat), .ref x]) ∧ ∃ vs t, ox.data = .fields vs ∧ vs[1]? = some (.str q t))
section
variable {M : Model} {A : Around} {E : Value → Shared → Prop} {s : Shared} {h₀ : Heap} {L a c P : Addr} {m mg mb : Str → Option Value} {cn : Str} {cs : Scope} {ccd : Value} {cl : List (Str × Addr)} {news : List (Addr × Obj)} {g : Obj → List (Addr × Obj)}
  {p : Program} {loose : List Str} {mean : ExcName → Option Value} {name qual : Str} {params : Arguments} {body : List Stmt} {scope : Scope} {pos : Pos} {firstLine : Nat} {clos : List (Str × Addr)} {o ox : Obj} {x : Addr}
theorem nest_any {Q : Value → Shared → Prop} (F : Fr h₀ L s.heap m) (N : News h₀ L s.heap news) (T : Top p loose mean mg mb h₀) (C : CodeHd h₀ c P) (hcd : ccd = .ref c) (U : UpdF P o news g) (S : St P pos.line pos.col qual o x ox) (hmx : (x, ox) ∈ news) (hxP : @LT.lt Nat _ x P ∨ @LT.lt Nat _ P x)
    (hcl : closureFor scope (envX cn cs L a ccd cl) = pure clos)
    (h : ∀ f c' oc vs t ctv doc h' tk, Fr h₀ L h' m →
      News h₀ L h' ((f, fnMade name qual params body scope clos doc ((mg "__name__").getD .none) c' ctv) :: (c', oc) :: g (tabObj (#[] ++ #[rawInt pos.line, rawInt pos.col, .ref c']))) →
      oc.data = .fields vs → vs[1]? = some (.str qual t) → (∀ q ∈ news, @LT.lt Nat _ q.1 c' ∨ @LT.lt Nat _ c' q.1 ∨ ¬ (@LT.lt Nat _ q.1 x ∨ @LT.lt Nat _ x q.1)) → (∀ q ∈ news, q.1 < f) → c' < f → (@LT.lt Nat _ c' P ∨ @LT.lt Nat _ P c') → Q (.ref f) { s with heap := h', toks := tk }) :
    wpAny M A (makeFunction name qual params (.stmts body) scope (envX cn cs L a ccd cl) [] [] [] pos firstLine) Q E s := by
  have mP : (P, o) ∈ news := by
    obtain ⟨own, rest, rfl, _⟩ := U.split
    exact List.mem_append_right _ (.head _)
  rcases S with rfl | ⟨rfl, vs, t, hd, hv⟩
  · refine nest_K F N T C hcd U (by exact True.intro) rfl hcl fun f c' oc vs t ctv doc h' tk F' N' hd hv l1 l2 => ?_
    exact h f c' oc vs t ctv doc h' tk F' N' hd hv (fun q hq => .inl (l1 q hq)) (fun q hq => Nat.lt_trans (l1 q hq) l2) l2 (.inr (l1 _ mP))
  · refine nestHit_K (c' := x) F N T C hcd mP (by simp [TriplesOk, rawInt]) (by simp [codeAmong, rawInt]) hcl fun f ctv doc h' tk F' N' l1 => ?_
    refine h f x ox vs t ctv doc h' tk F' ?_ hd hv (fun q hq => ?_) l1 (l1 _ hmx) hxP
    · obtain ⟨own, rest, e, hgr, _⟩ := U.split
      rw [hgr, ← e]
      intro q hq
      rcases List.mem_cons.mp hq with rfl | hq
      · exact N' _ (.head _)
      · rcases List.mem_cons.mp hq with rfl | hq
        · exact N' _ (.tail _ hmx)
        · exact N' _ (.tail _ hq)
    · by_cases e : q.1 < x
      · exact .inl e
      · by_cases e' : x < q.1
        · exact .inr (.inl e')
        · exact .inr (.inr fun k => k.elim e e')
end
noncomputable def CodeOk (q : Str) (oc : Obj) : Prop := ∃ vs t, oc.data = .fields vs ∧ vs[1]? = some (.str q t)
noncomputable abbrev madeTab (P : Addr) (l c : Nat) (x : Addr) : Addr × Obj := (P, tabObj (#[] ++ #[rawInt (l : Nat), rawInt (c : Nat), .ref x]))
/-- what a call gives that comes by one closure's code table -/
inductive tabR (P : Addr) (l c : Nat) (q : Str) (x : Addr) (ox : Obj) (R : Value → List (Addr × Obj) → Prop) (r : Value) (out : List (Addr × Obj)) : Prop
  | mk (new : List (Addr × Obj)) (x' : Addr) (ox' : Obj) (fl1 : R r new) (fl2 : CodeOk q ox') (fl3 : out = new ++ [madeTab P l c x', (x', ox'), (x, ox)]) (fl4 : (∀ q ∈ new, q.1 ∉ [P, x])) (fl5 : (@LT.lt Nat _ x' P ∨ @LT.lt Nat _ P x')) : tabR P l c q x ox R r out
/-- a list of these numbers, made by the call -/
noncomputable def Dig (ds : List Int) (r : Value) (new : List (Addr × Obj)) : Prop := ∃ D vs n, r = .ref D ∧ new = [(D, listOf (List.toArray vs) n)] ∧ IntsAre vs ds
noncomputable def q1 : Str := qualnameIn (envOfC (Str.ofString "_int2digits") { kind := .function, names := [], isGenerator := false, isCoroutine := false } 0 49 .none) (Str.ofString "inner") (Str.ofString "inner")
noncomputable def q2 : Str := qualnameIn (envOfC (Str.ofString "_digits2int") { kind := .function, names := [], isGenerator := false, isCoroutine := false } 0 56 .none) (Str.ofString "inner") (Str.ofString "inner")
end
section
/-- a stop of the walk: the goal goes on by hand -/
structure Stuck (P : Prop) : Prop where
  out : P
section
variable {w : World} {f : Addr} {dep : Nat} {wr news : List (Addr × Obj)} {vs : List Value} {p : Program} {loose : List Str} {mean : ExcName → Option Value} {mg mb : Str → Option Value} {dp un : Nat} {gd : Option (List Code)} {cn : Str} {cs : Scope} {a : Addr} {ccd : Value} {cl : List (Str × Addr)} {outer : List Env} {A₀ : Around} {base h₀ : Heap} {L : Addr} {m : Str → Option Value} {s : Shared} {Q E : Value → Shared → Prop}
theorem use_wr {R : Value → List (Addr × Obj) → Prop} (C : Core w f dep wr vs R) (hs : ∀ p ∈ wr, p ∈ news) (B : Below A₀ base outer h₀) (F : Fr h₀ L s.heap m) (X : (K w.params).In h₀) (N : News h₀ L s.heap news) (T : Top p loose mean mg mb h₀) (hk : cs.kind = .function) (hd : dp + dep < recursionLimit) (hu : un + 8 * dep < cLine)
    (h : ∀ r out h' tk', R r out → Fr h₀ L h' m → News h₀ L h' out → (∀ p ∈ news, p.1 ∉ wr.map (·.1) → h'.get? p.1 = some p.2 ∧ p.1 ≠ L ∧ h₀.get? p.1 = none) → (∀ p ∈ news, ∀ q ∈ wr, p.1 = q.1 → p = q) → (∀ q ∈ out, q.1 ∈ wr.map (·.1) ∨ ∀ p ∈ news, p.1 ≠ q.1) → Q r { s with heap := h', toks := tk' }) : wpAny (model pgm w) (ktrTop dp un gd cn cs L a ccd cl outer) (call (.ref f) vs) Q E s :=
  C p loose mean mg mb dp un gd cn cs a ccd cl outer A₀ base h₀ L m s Q E B F X (fun x hx => N x (hs x hx)) T hk hd hu fun r out h' tk' hr F' N' hkeep hnew => by
    refine h r out h' tk' hr F' N' (fun x hx hn => ⟨hkeep _ _ (N x hx).1 hn, (N x hx).2⟩) (fun x hx q hq e => ?_) fun q hq => ?_
    · have e1 := (N q (hs q hq)).1
      rw [← e, (N x hx).1] at e1
      exact Prod.ext e (Option.some.inj e1)
    · rcases hnew q hq with hb | hb
      · exact .inl hb
      · refine .inr fun x hx e => ?_
        rw [← e, (N x hx).1] at hb; cases hb
/-- what a call gives that turns one list and nothing else -/
noncomputable def turnL (l : Addr) (rest : List (Addr × Obj)) (P : List Value → Prop) (r : Value) (out : List (Addr × Obj)) : Prop := r = .none ∧ ∃ vs e, P vs ∧ out = (l, listOf (List.toArray vs) e) :: rest
theorem use_turn {l : Addr} {o : Obj} {rest : List (Addr × Obj)} {P : List Value → Prop} {g : Obj → List (Addr × Obj)} (C : Core w f dep ((l, o) :: rest) vs (turnL l rest P)) (hs : ∀ p ∈ (l, o) :: rest, p ∈ news) (B : Below A₀ base outer h₀) (F : Fr h₀ L s.heap m) (X : (K w.params).In h₀) (N : News h₀ L s.heap news) (T : Top p loose mean mg mb h₀) (hk : cs.kind = .function) (hd : dp + dep < recursionLimit) (hu : un + 8 * dep < cLine)
    (U : UpdF l o news g)
    (h : ∀ ws n h' tk', P ws → Fr h₀ L h' m → News h₀ L h' (g (listOf (List.toArray ws) n)) → Q .none { s with heap := h', toks := tk' }) : wpAny (model pgm w) (ktrTop dp un gd cn cs L a ccd cl outer) (call (.ref f) vs) Q E s :=
  use_wr C hs B F X N T hk hd hu fun r out h' tk' hr F' N' hkeep hsame _ => by
    obtain ⟨rfl, ws, n, hP, rfl⟩ := hr
    obtain ⟨p1, r1, e1, g1e, n1, m1⟩ := U.split
    have one : ∀ z ∈ news, z.1 ≠ l → h'.get? z.1 = some z.2 ∧ z.1 ≠ L ∧ h₀.get? z.1 = none := fun z hz hzl => by
      by_cases hb : z.1 ∈ ((l, o) :: rest).map (·.1)
      · obtain ⟨y, hy, e⟩ := List.mem_map.mp hb
        obtain rfl := hsame z hz y hy e.symm
        rcases List.mem_cons.mp hy with rfl | hy
        · exact absurd rfl hzl
        · exact N' z (.tail _ hy)
      · exact hkeep z hz hb
    refine h ws n h' tk' hP F' fun z hz => ?_
    rw [g1e] at hz
    rcases List.mem_append.mp hz with hz | hz
    · exact one z (by rw [e1]; exact List.mem_append_left _ hz) (n1 z hz)
    rcases List.mem_cons.mp hz with rfl | hz
    · exact N' _ (.head _)
    · exact one z (by rw [e1]; exact List.mem_append_right _ (.tail _ hz)) (m1 z hz)
/-- the way into a made function -/
theorem core_nest {R : Value → List (Addr × Obj) → Prop} {name qual : Str} {params : Arguments} {body : List Stmt} {scope : Scope} {cl : List (Str × Addr)} {doc pm ct : Value} {c' : Addr} {oc : Obj} {binds : List (Str × Value)}
    (ho : (f, fnMade name qual params body scope cl doc pm c' ct) ∈ wr) (hc : (c', oc) ∈ wr) (hcd : CodeOk qual oc)
    (hbind : bindArgs (fnX name qual params body scope cl .none .none doc pm none (.ref c') ct) ⟨vs, []⟩ = pure binds) (hloc : ∀ y ∈ binds, scope.names.lookup y.1 = some .local)
    (hdep : 1 ≤ dep) (hcell : ∀ x ∈ scope.names, x.2 ≠ .cell) (hco : scope.isCoroutine = false) (hgen : scope.isGenerator = false) (hk : scope.kind = .function)
    (h : ∀ (p : Program) (loose : List Str) (mean : ExcName → Option Value) (mg mb : Str → Option Value) (dp un : Nat) (gd : Option (List Code)) (cn : Around) (outer : List Env) (base g : Heap) (L' : Addr) (s : Shared) (Qf : Flow → Shared → Prop),
      Fr g L' s.heap (fun y => binds.reverse.lookup y) → News g L' s.heap wr → Below cn base outer g → (K w.params).In g → Top p loose mean mg mb g → dp + dep < recursionLimit + 1 → un + 8 * dep < cLine + 3 →
      (∀ fl out h' tk' m', R (match fl with | .ret v => v | _ => Value.none) out → Fr g L' h' m' → News g L' h' out → Qf fl { s with heap := h', toks := tk' }) →
      wpAny (model pgm w) (ktrTop dp un gd qual scope L' f (.ref c') cl outer) (execs body (envX qual scope L' f (.ref c') cl)) Qf (fun _ _ => False) s) : Core w f dep wr vs R := by
  intro p loose mean mg mb dp un gd cn cs a ccd cl₀ outer A₀ base h₀ L m s Q E B F X N T hkc hd hu hret
  refine wpAny_call ?_
  obtain ⟨FG, BG, st, _⟩ := groundX (A := ktrTop dp un gd cn cs L a ccd cl₀ outer) (env := envX cn cs L a ccd cl₀) (R := fun _ _ => True) B F N rfl rfl hkc
  have hroom : (ktrTop dp un gd cn cs L a ccd cl₀ outer).depth < recursionLimit := by show dp < recursionLimit; omega
  obtain ⟨cvs, ctk, hcd1, hcd2⟩ := hcd
  refine codeAny_call_def (fd := fnX name qual params body scope cl .none .none doc pm none (.ref c') ct) (body := body) (binds := binds) hroom (N _ ho).1 rfl (T.nolimit.keeps F.keep) (codeRec_news N hc hcd1 hcd2) rfl (BindsTo.of_eq hbind) hcell hloc (fun h₁ hns hk₁ => ?_) hco hgen hk
  refine wpAny_mono (E := fun _ _ => False) (h p loose mean mg mb (dp + 1) (un + 3) gd (ktrTop dp un gd cn cs L a ccd cl₀ outer) (envX cn cs L a ccd cl₀ :: outer) base (hideAll s.heap (wr.map (·.1))) s.heap.objs.size { s with heap := h₁, toks := s.toks + binds.length } _
    ⟨hns, fun b o e => hk₁ b o (of_hideAll _ e), Nat.le_of_eq (hideAll_size _ _)⟩
    (fun x hx => ⟨hk₁ _ _ (N x hx).1, Nat.ne_of_lt (Heap.lt_size (N x hx).1), hideAll_none _ (List.mem_map_of_mem hx)⟩)
    BG (X.keeps fun b o e => st b o e) (T.keeps fun b o e => st b o e) (by omega) (by omega) ?_) (fun _ _ q => q) (fun _ _ q => q.elim)
  intro fl out h' tk' m' hr F' N'
  obtain ⟨oL, es, ep, hL, hLd, hLk, hLf⟩ := F.ns
  have nL : L ∉ wr.map (·.1) := fun q => by
    obtain ⟨x, hx, e⟩ := List.mem_map.mp q
    exact (N x hx).2.1 e
  have hLg := hideAll_get (wr.map (·.1)) hL nL
  refine hret _ out h' tk' hr ⟨⟨oL, es, ep, F'.keep L oL hLg, hLd, hLk, hLf⟩, fun b o e => F'.keep b o (st b o e), F.above⟩ (fun x hx => ⟨(N' x hx).1, fun q => ?_, ?_⟩)
    (fun b o e hb => F'.keep b o (hideAll_get _ e hb)) (fun q hq => ?_)
  · have := (N' x hx).2.2; rw [q, hLg] at this; cases this
  · cases q : h₀.get? x.1 with
    | none => rfl
    | some o => have := (N' x hx).2.2; rw [st _ _ q] at this; cases this
  · by_cases hb : q.1 ∈ wr.map (·.1)
    · exact .inl hb
    · right
      cases e : s.heap.get? q.1 with
      | none => rfl
      | some o => have := (N' q hq).2.2; rw [hideAll_get _ e hb] at this; cases this
end
/-! the inner functions of the program's text -/
noncomputable def inSt (i k : Nat) : Stmt := match stAt i with
  | .FunctionDef _ _ body _ _ _ _ _ _ _ => body.getD k (.Pass ⟨0, 0, 0, 0⟩)
  | _ => .Pass ⟨0, 0, 0, 0⟩
/-- the made inner function of the statement st -/
noncomputable def inFn (st : Stmt) (q : Str) (cl : List (Str × Addr)) (doc pm : Value) (c' : Addr) (ct : Value) : Obj := match st with
  | .FunctionDef nm args body _ _ _ scope _ _ _ => fnMade nm q args body scope cl doc pm c' ct
  | _ => fnMade q q default [] default cl doc pm c' ct
theorem in_lit {st : Stmt} {nm : Str} {args : Arguments} {body : List Stmt} {x1 : List PySem.Expr} {x2 : Option PySem.Expr} {x3 : List TypeParam} {scope : Scope} {x4 : Option Scope} {x5 : Str} {x6 : Pos} {P : Obj → Prop} {q : Str} {cl : List (Str × Addr)} {doc pm : Value} {c' : Addr} {ct : Value}
    (e : st = .FunctionDef nm args body x1 x2 x3 scope x4 x5 x6) (h : P (fnMade nm q args body scope cl doc pm c' ct)) : P (inFn st q cl doc pm c' ct) := by
  subst e
  exact h
end
section
theorem fill_Inn : K = K ∧ PySem.Challenge.rw_sn0097_01 = PySem.Challenge.rw_sn0097_01 := by k_fill; exact ⟨rfl, rfl⟩
theorem bx_all : ∀ j : Fin 9, ∀ a : Fin 256, Builtin.bitXor ((a.val : Nat) : Int) (((a.val : Nat) : Int) / 2 ^ j.val * 2 ^ j.val) = ((a.val : Nat) : Int) % 2 ^ j.val := by decide +kernel
section
variable {w : World} {A : Around} {E : Value → Shared → Prop} {s : Shared} {Q : Value → Shared → Prop} {a n b : Int} {t u : Tok}
theorem r_half (h : Q (.int (a / 2) s.toks) { s with toks := s.toks + 1 }) : wpAny (model pgm w) A (binaryOp .RShift (.int a t) (.int 1 u)) Q E s := by
  refine rshift_int (by decide) ?_
  rw [show ((2 : Int) ^ ((1 : Int).toNat)) = 2 from rfl, Int.fdiv_eq_ediv_of_nonneg a (by decide)]
  exact h
theorem r_shr (j : Nat) (e : n = j) (h : Q (.int (a / 2 ^ j) s.toks) { s with toks := s.toks + 1 }) : wpAny (model pgm w) A (binaryOp .RShift (.int a t) (.int n u)) Q E s := by
  subst e
  refine rshift_int (by omega) ?_
  rw [Int.toNat_natCast, Int.fdiv_eq_ediv_of_nonneg a (by exact Int.le_of_lt (Int.pow_pos (by decide)))]
  exact h
theorem r_shl (j : Nat) (e : n = j) (hj : j ≤ 8) (ha : a.natAbs < 100000) (h : Q (.int (a * 2 ^ j) s.toks) { s with toks := s.toks + 1 }) : wpAny (model pgm w) A (binaryOp .LShift (.int a t) (.int n u)) Q E s := by
  subst e
  refine lshift_int_small (by omega) (by omega) (by omega) ?_
  rw [Int.toNat_natCast]
  exact h
theorem r_xor (j : Nat) (hj : j ≤ 8) (e : b = a / 2 ^ j * 2 ^ j) (h0 : 0 ≤ a) (h1 : a < 256) (h : Q (.int (a % 2 ^ j) s.toks) { s with toks := s.toks + 1 }) : wpAny (model pgm w) A (binaryOp .BitXor (.int a t) (.int b u)) Q E s := by
  subst e
  refine xor_int ?_
  have := bx_all ⟨j, by omega⟩ ⟨a.toNat, by omega⟩
  simp only [Int.toNat_of_nonneg h0] at this
  rw [this]
  exact h
end
noncomputable abbrev restI (f : Addr) (fo : Obj) (c' : Addr) (oc : Obj) (ci : Addr) (oi : Obj) (ca : Addr) (oa : Obj) (cn : Addr) (on : Obj) : List (Addr × Obj) := [(f, fo), (c', oc), (ci, oi), (ca, oa), (cn, on)]
/-- inner of _int2digits, called over the list vs -/
noncomputable def InC (w : World) (f c' l ci ca cn : Addr) (oc oi oa on : Obj) (d : Nat) (vs : List Value) (x L R : Int) (P : List Value → Prop) (fo : Obj) : Prop :=
  ∀ e tx tL tR, Core w f d ((l, listOf (List.toArray vs) e) :: restI f fo c' oc ci oi ca oa cn on) [.int x tx, .int L tL, .int R tR] (turnL l (restI f fo c' oc ci oi ca oa cn on) P)
local macro_rules | `(tactic| walk_at "call ref") => `(tactic| refine Stuck.out ?_)
local macro_rules | `(tactic| walk_at "setItem ref int") => `(tactic| refine Stuck.out ?_)
local macro_rules | `(tactic| walk_at "binaryOp RShift int int") => `(tactic| refine Stk.out (k := 2) ?_)
local macro_rules | `(tactic| walk_at "binaryOp LShift int int") => `(tactic| refine Stk.out (k := 3) ?_)
local macro_rules | `(tactic| walk_at "binaryOp BitXor int int") => `(tactic| refine Stk.out (k := 4) ?_)
local macro_rules | `(tactic| walk_at "binaryOp Mult int int") => `(tactic| (with_reducible refine mul_int ?_ (by assumption)))
local macro_rules | `(tactic| k_room) => `(tactic| (ktr_room))
set_option maxHeartbeats 4000000 in
theorem in_walk (w : World) (f c' l ci ca cn : Addr) (oc oi oa on : Obj) (doc pm ct : Value) (n x L R : Int) (tn : Tok) (j d : Nat) (vs : List Value) (P1 P2 : List Value → Prop)
    (hoc : CodeOk q1 oc) (hdi : oi.data = .cell (some (.ref f))) (hda : oa.data = .cell (some (.ref l))) (hdn : on.data = .cell (some (.int n tn)))
    (hne : f ≠ l ∧ c' ≠ l ∧ ci ≠ l ∧ ca ≠ l ∧ cn ≠ l) (hx0 : 0 ≤ x) (hx1 : x < 256) (hj : j ≤ 8) (hsh : ((L + R) / 2 - L) * n = (j : Int)) (hmul : IntMulOk ((L + R) / 2 - L) n) (hup : (x / 2 ^ j).natAbs < 100000)
    (leaf : L + 1 = R → 0 ≤ L ∧ L < 2 ^ 63 ∧ ∀ tx, ∃ q, ki_setL vs L.toNat (.int x tx) = some q ∧ P2 q) :
    (fun fo => (L + 1 ≠ R → InC w f c' l ci ca cn oc oi oa on d vs (x % 2 ^ j) L ((L + R) / 2) P1 fo) → (L + 1 ≠ R → ∀ ws, P1 ws → InC w f c' l ci ca cn oc oi oa on d ws (x / 2 ^ j) ((L + R) / 2) R P2 fo) →
      InC w f c' l ci ca cn oc oi oa on (d + 1) vs x L R P2 fo) (inFn (inSt 10 1) q1 [(Str.ofString "n", cn), (Str.ofString "inner", ci), (Str.ofString "a_digits", ca)] doc pm c' ct) := by
  refine in_lit (P := fun fo => (L + 1 ≠ R → InC w f c' l ci ca cn oc oi oa on d vs (x % 2 ^ j) L ((L + R) / 2) P1 fo) → (L + 1 ≠ R → ∀ ws, P1 ws → InC w f c' l ci ca cn oc oi oa on d ws (x / 2 ^ j) ((L + R) / 2) R P2 fo) →
      InC w f c' l ci ca cn oc oi oa on (d + 1) vs x L R P2 fo) (by exact rfl) ?_
  intro I1 I2 e tx tL tR
  refine core_nest (.tail _ (.head _)) (.tail _ (.tail _ (.head _))) hoc (by exact rfl) (locs rfl) (by omega) (by decide) rfl rfl rfl ?_
  intro p loose mean mg mb dp un gd cn' outer base g L' s Qf F N B X T hd hu hret
  have C1 : CodeHd g 48 44 := codeHd_of_K X (by kernel_rfl)
  have hrest : ∀ fo, ∀ q ∈ restI f fo c' oc ci oi ca oa cn on, q.1 ≠ l := fun fo => by
    simp only [List.forall_mem_cons]; exact ⟨hne.1, hne.2.1, hne.2.2.1, hne.2.2.2.1, hne.2.2.2.2, fun _ h => nomatch h⟩
  repeat' ((first | (k_unfold; (try dsimp only)) | (k_end; kc_close) | walk1 | (dsimp only; walk1) | (leave1; walk_say "STEP leave1"; (try dsimp only)) | fail "no step") <;> (repeat' (first
    | (refine Stk.mk (k := 2) ?_; with_reducible ((k_here; first | (with_reducible refine r_half ?_) | ((with_reducible refine' r_shr _ ?e ?_); (case e => with_reducible assumption)))))
    | (refine Stk.mk (k := 3) ?_; with_reducible ((k_here; ((with_reducible refine' r_shl _ ?e ?j ?a ?_); (case e => with_reducible assumption); (case j => with_reducible assumption); (case a => with_reducible assumption)))))
    | (refine Stk.mk (k := 4) ?_; with_reducible ((k_here; ((with_reducible refine' r_xor _ ?j ?e ?a ?b ?_); (case e => with_reducible exact rfl); (case j => with_reducible assumption); (case a => with_reducible assumption); (case b => with_reducible assumption))))))))
  · refine ⟨?_⟩
    obtain ⟨h0, h1, hq⟩ := leaf (by assumption)
    obtain ⟨q, hq1, hq2⟩ := hq tx
    k_dflt (refine' ki_set ?F ?N ?a ?b ?e ?U ?_; (case F => k_asm); (case N => k_asm); (case U => exact Upd.head (hrest _)); (case a => exact h0); (case b => exact h1); (case e => exact hq1))
    intro h' F' N'
    repeat' ((first | (k_unfold; (try dsimp only)) | (k_end; kc_close) | walk1 | (dsimp only; walk1) | (leave1; walk_say "STEP leave1"; (try dsimp only)) | fail "no step") <;> (repeat' (first
    | (refine Stk.mk (k := 2) ?_; with_reducible ((k_here; first | (with_reducible refine r_half ?_) | ((with_reducible refine' r_shr _ ?e ?_); (case e => with_reducible assumption)))))
    | (refine Stk.mk (k := 3) ?_; with_reducible ((k_here; ((with_reducible refine' r_shl _ ?e ?j ?a ?_); (case e => with_reducible assumption); (case j => with_reducible assumption); (case a => with_reducible assumption)))))
    | (refine Stk.mk (k := 4) ?_; with_reducible ((k_here; ((with_reducible refine' r_xor _ ?j ?e ?a ?b ?_); (case e => with_reducible exact rfl); (case j => with_reducible assumption); (case a => with_reducible assumption); (case b => with_reducible assumption))))))))
    exact hret _ _ _ _ _ ⟨rfl, q, e, hq2, rfl⟩ (by k_asm) (by k_asm)
  · refine ⟨?_⟩
    refine' use_turn (I1 (by assumption) e _ _ _) ?hs ?B ?F ?X ?N ?T ?hk ?hd ?hu ?U ?_
    case hs => exact fun _ h => h
    case U => exact UpdF.head (hrest _)
    case hk => exact rfl
    case hd => omega
    case hu => omega
    case B => k_asm
    case F => k_asm
    case X => k_asm
    case N => k_asm
    case T => k_asm
    intro vs1 e1 h1 tk1 hP1 F1 N1
    repeat' ((first | (k_unfold; (try dsimp only)) | (k_end; kc_close) | walk1 | (dsimp only; walk1) | (leave1; walk_say "STEP leave1"; (try dsimp only)) | fail "no step") <;> (repeat' (first
    | (refine Stk.mk (k := 2) ?_; with_reducible ((k_here; first | (with_reducible refine r_half ?_) | ((with_reducible refine' r_shr _ ?e ?_); (case e => with_reducible assumption)))))
    | (refine Stk.mk (k := 3) ?_; with_reducible ((k_here; ((with_reducible refine' r_shl _ ?e ?j ?a ?_); (case e => with_reducible assumption); (case j => with_reducible assumption); (case a => with_reducible assumption)))))
    | (refine Stk.mk (k := 4) ?_; with_reducible ((k_here; ((with_reducible refine' r_xor _ ?j ?e ?a ?b ?_); (case e => with_reducible exact rfl); (case j => with_reducible assumption); (case a => with_reducible assumption); (case b => with_reducible assumption))))))))
    refine ⟨?_⟩
    refine' use_turn (I2 (by assumption) vs1 hP1 e1 _ _ _) ?hs ?B ?F ?X ?N ?T ?hk ?hd ?hu ?U ?_
    case hs => exact fun _ h => h
    case U => exact UpdF.head (hrest _)
    case hk => exact rfl
    case hd => omega
    case hu => omega
    case B => k_asm
    case F => k_asm
    case X => k_asm
    case N => k_asm
    case T => k_asm
    intro vs2 e2 h2 tk2 hP2 F2 N2
    repeat' ((first | (k_unfold; (try dsimp only)) | (k_end; kc_close) | walk1 | (dsimp only; walk1) | (leave1; walk_say "STEP leave1"; (try dsimp only)) | fail "no step") <;> (repeat' (first
    | (refine Stk.mk (k := 2) ?_; with_reducible ((k_here; first | (with_reducible refine r_half ?_) | ((with_reducible refine' r_shr _ ?e ?_); (case e => with_reducible assumption)))))
    | (refine Stk.mk (k := 3) ?_; with_reducible ((k_here; ((with_reducible refine' r_shl _ ?e ?j ?a ?_); (case e => with_reducible assumption); (case j => with_reducible assumption); (case a => with_reducible assumption)))))
    | (refine Stk.mk (k := 4) ?_; with_reducible ((k_here; ((with_reducible refine' r_xor _ ?j ?e ?a ?b ?_); (case e => with_reducible exact rfl); (case j => with_reducible assumption); (case a => with_reducible assumption); (case b => with_reducible assumption))))))))
    exact hret _ _ _ _ _ ⟨rfl, vs2, e2, hP2, rfl⟩ (by k_asm) (by k_asm)
-- ENDWALK
end
section
noncomputable def digs (b : Nat) : Nat → Int → List Int
  | 0, _ => []
  | k + 1, x => x % 2 ^ b :: digs b k (x / 2 ^ b)
theorem em_ed {x A B : Int} (hA : 0 < A) (hB : 0 < B) : (x % (A * B)) / A = x / A % B := by
  have h1 : x % (A * B) = x + A * (-(B * (x / (A * B)))) := by
    rw [Int.emod_def, Int.mul_neg, ← Int.mul_assoc, Int.sub_eq_add_neg]
  rw [h1, Int.add_mul_ediv_left _ _ (Int.ne_of_gt hA), Int.emod_def, Int.ediv_ediv_of_nonneg (Int.le_of_lt hA)]
  rw [Int.sub_eq_add_neg]
theorem p2 (b : Nat) : (0 : Int) < 2 ^ b := Int.pow_pos (by decide)
theorem digs_split (b k2 : Nat) : ∀ (k1 : Nat) (x : Int), digs b (k1 + k2) x = digs b k1 (x % 2 ^ (b * k1)) ++ digs b k2 (x / 2 ^ (b * k1))
  | 0, x => by simp [digs]
  | k1 + 1, x => by
    rw [show k1 + 1 + k2 = (k1 + k2) + 1 by omega]
    show x % 2 ^ b :: digs b (k1 + k2) (x / 2 ^ b) = (x % 2 ^ (b * (k1 + 1))) % 2 ^ b :: (digs b k1 (x % 2 ^ (b * (k1 + 1)) / 2 ^ b) ++ digs b k2 (x / 2 ^ (b * (k1 + 1))))
    have e : (2 : Int) ^ (b * (k1 + 1)) = 2 ^ b * 2 ^ (b * k1) := by rw [← Int.pow_add]; congr 1; rw [Nat.mul_add]; omega
    rw [e, em_ed (p2 b) (p2 _), Int.emod_emod_of_dvd x ⟨_, rfl⟩, digs_split b k2 k1 (x / 2 ^ b), Int.ediv_ediv_of_nonneg (Int.le_of_lt (p2 b))]
theorem set_at (v x : Value) (Suf : List Value) : ∀ (Pre : List Value), ki_setL (Pre ++ [v] ++ Suf) Pre.length x = some (Pre ++ [x] ++ Suf)
  | [] => rfl
  | p :: r => by
    show (match ki_setL (r ++ [v] ++ Suf) r.length x with | some q => some (p :: q) | none => none) = _
    rw [set_at v x Suf r]; rfl
theorem core_mono {w : World} {f : Addr} {d1 d2 : Nat} {wr : List (Addr × Obj)} {vs : List Value} {R R' : Value → List (Addr × Obj) → Prop} (hd : d1 ≤ d2) (hR : ∀ r out, R r out → R' r out) (C : Core w f d1 wr vs R) : Core w f d2 wr vs R' := by
  intro p loose mean mg mb dp un gd cn cs a ccd cl outer A₀ base h₀ L m s Q E B F X N T hk h1 h2 hret
  exact C p loose mean mg mb dp un gd cn cs a ccd cl outer A₀ base h₀ L m s Q E B F X N T hk (by omega) (by omega) fun r out h' tk' hr => hret r out h' tk' (hR r out hr)
theorem ints_len {vs : List Value} {ds : List Int} (h : IntsAre vs ds) : vs.length = ds.length := by
  induction h with
  | nil => rfl
  | cons _ _ _ ih => simp [ih]
theorem ints_app {vs us : List Value} {ds es : List Int} (h : IntsAre vs ds) (k : IntsAre us es) : IntsAre (vs ++ us) (ds ++ es) := by
  induction h with
  | nil => exact k
  | cons _ _ _ ih => exact .cons _ _ ih
theorem digs_len (b : Nat) : ∀ (k : Nat) (x : Int), (digs b k x).length = k
  | 0, _ => rfl
  | k + 1, x => by show (digs b k _).length + 1 = _; rw [digs_len b k]
theorem inC_mono {w : World} {f c' l ci ca cn : Addr} {oc oi oa on : Obj} {d1 d2 : Nat} {vs : List Value} {x L R : Int} {P P' : List Value → Prop} {fo : Obj} (hd : d1 ≤ d2) (hP : ∀ ws, P ws → P' ws) (C : InC w f c' l ci ca cn oc oi oa on d1 vs x L R P fo) : InC w f c' l ci ca cn oc oi oa on d2 vs x L R P' fo :=
  fun e tx tL tR => core_mono hd (fun _ _ ⟨h1, vs, e, h2, h3⟩ => ⟨h1, vs, e, hP vs h2, h3⟩) (C e tx tL tR)
theorem pow_le8 {j : Nat} (h : j ≤ 8) : (2 : Int) ^ j ≤ 256 := by
  have : ∀ j : Fin 9, (2 : Int) ^ j.val ≤ 256 := by decide
  exact this ⟨j, by omega⟩
theorem half {k : Nat} (h : 2 ≤ k) : k / 2 ≤ k - 1 ∧ 1 ≤ k / 2 ∧ k - k / 2 ≤ k - 1 ∧ 1 ≤ k - k / 2 := by omega
theorem half_add (k : Nat) : k / 2 + (k - k / 2) = k := Nat.add_sub_cancel' (Nat.div_le_self k 2)
theorem mid_eq (p k : Nat) : ((p : Int) + ((p + k : Nat) : Int)) / 2 = ((p + k / 2 : Nat) : Int) := by omega
theorem mid_sub (p k : Nat) : ((p + k : Nat) : Int) - p = (k : Int) := by omega
theorem one_k {p k : Nat} (h : (p : Int) + 1 = ((p + k : Nat) : Int)) : k = 1 := by omega
theorem two_k {p k : Nat} (hk : 1 ≤ k) (h : (p : Int) + 1 ≠ ((p + k : Nat) : Int)) : 2 ≤ k := by omega
theorem fit_p {p : Nat} (h : p ≤ 16) : (p : Int) < 2 ^ 63 := by omega
theorem mul_k {k : Nat} {n : Int} (h : k ≤ 16) : IntMulOk (k : Int) n := IntMulOk.of_left (intBits_le_64 (by omega) (by omega))
theorem up_ok {q x : Int} (h0 : 0 ≤ q) (h1 : q ≤ x) (h2 : x < 256) : q.natAbs < 100000 := by omega
theorem seg_split {α : Type} (Pre M Suf : List α) (k : Nat) : Pre ++ M ++ Suf = Pre ++ M.take k ++ (M.drop k ++ Suf) := by
  rw [List.append_assoc, List.append_assoc, ← List.append_assoc (M.take k), List.take_append_drop]
theorem c_in (w : World) (f c' l ci ca cn : Addr) (oc oi oa on : Obj) (doc pm ct : Value) (n : Int) (tn : Tok) (b : Nat) (hb : 1 ≤ b) (hn : n = b)
    (hoc : CodeOk q1 oc) (hdi : oi.data = .cell (some (.ref f))) (hda : oa.data = .cell (some (.ref l))) (hdn : on.data = .cell (some (.int n tn))) (hne : f ≠ l ∧ c' ≠ l ∧ ci ≠ l ∧ ca ≠ l ∧ cn ≠ l)
    (fo : Obj) (hfo : fo = inFn (inSt 10 1) q1 [(Str.ofString "n", cn), (Str.ofString "inner", ci), (Str.ofString "a_digits", ca)] doc pm c' ct) :
    ∀ (k : Nat) (x L R : Int) (vs Pre M Suf : List Value), 1 ≤ k → b * k ≤ 8 → vs = Pre ++ M ++ Suf → M.length = k → L = Pre.length → Pre.length + k ≤ 16 → R = ((Pre.length + k : Nat) : Int) → 0 ≤ x → x < 2 ^ (b * k) →
      InC w f c' l ci ca cn oc oi oa on k vs x L R (fun ws => ∃ ds, ws = Pre ++ ds ++ Suf ∧ IntsAre ds (digs b k x)) fo := by
  intro k
  induction k using Nat.strongRecOn with
  | _ k ih =>
  intro x L R vs Pre M Suf hk hbk hvs hM hL hP hR hx0 hx1
  subst hL hR hvs hn
  have hj : b * (k / 2) ≤ 8 := Nat.le_trans (Nat.mul_le_mul_left b (Nat.div_le_self k 2)) hbk
  have hsh : (((Pre.length : Int) + ((Pre.length + k : Nat) : Int)) / 2 - (Pre.length : Int)) * (b : Int) = ((b * (k / 2) : Nat) : Int) := by
    rw [mid_eq, mid_sub, Int.natCast_mul, Int.mul_comm]
  have hmul : IntMulOk (((Pre.length : Int) + ((Pre.length + k : Nat) : Int)) / 2 - (Pre.length : Int)) (b : Int) := by
    rw [mid_eq, mid_sub]
    exact mul_k (Nat.le_trans (Nat.div_le_self k 2) (Nat.le_trans (Nat.le_add_left k _) hP))
  have h256 := Int.lt_of_lt_of_le hx1 (pow_le8 hbk)
  have hq0 : 0 ≤ x / 2 ^ (b * (k / 2)) := Int.ediv_nonneg hx0 (Int.le_of_lt (p2 _))
  have hq1 : x / 2 ^ (b * (k / 2)) ≤ x := Int.ediv_le_self _ hx0
  rw [hfo]
  obtain ⟨d, rfl⟩ : ∃ d, k = d + 1 := ⟨k - 1, (Nat.sub_add_cancel hk).symm⟩
  refine in_walk w f c' l ci ca cn oc oi oa on doc pm ct (b : Int) x _ _ tn (b * ((d + 1) / 2)) d _ (fun ws => ∃ ds, ws = Pre ++ ds ++ (M.drop ((d + 1) / 2) ++ Suf) ∧ IntsAre ds (digs b ((d + 1) / 2) (x % 2 ^ (b * ((d + 1) / 2))))) _ hoc hdi hda hdn hne hx0 h256 hj hsh hmul (up_ok hq0 hq1 h256) ?leaf ?I1 ?I2
  case leaf =>
    intro h
    refine ⟨Int.natCast_nonneg _, fit_p (Nat.le_trans (Nat.le_add_right _ _) hP), fun tx => ?_⟩
    have hd0 : d = 0 := Nat.succ.inj (one_k h)
    subst hd0
    obtain ⟨v, rfl⟩ : ∃ v, M = [v] := by
      match M, hM with
      | [v], _ => exact ⟨v, rfl⟩
    refine ⟨_, ?_, [.int x tx], rfl, ?_⟩
    · rw [Int.toNat_natCast]; exact set_at v _ Suf Pre
    · show IntsAre _ [x % 2 ^ b]
      rw [Int.emod_eq_of_lt hx0 (by rw [Nat.mul_one] at hx1; exact hx1)]
      exact .cons _ _ .nil
  case I1 =>
    intro h
    have H := half (two_k hk h)
    rw [← hfo]
    refine inC_mono H.1 (fun _ h => h) (ih ((d + 1) / 2) (Nat.lt_succ_of_le H.1) (x % 2 ^ (b * ((d + 1) / 2))) _ _ _ Pre (M.take ((d + 1) / 2)) (M.drop ((d + 1) / 2) ++ Suf) H.2.1 hj (seg_split Pre M Suf _) ?_ rfl (Nat.le_trans (Nat.add_le_add_left (Nat.div_le_self _ 2) _) hP) (mid_eq _ _) (Int.emod_nonneg _ (Int.ne_of_gt (p2 _))) (Int.emod_lt_of_pos _ (p2 _)))
    rw [List.length_take, hM]; exact Nat.min_eq_left (Nat.div_le_self _ 2)
  case I2 =>
    intro h ws hws
    have H := half (two_k hk h)
    obtain ⟨ds, rfl, hds⟩ := hws
    have hl := (ints_len hds).trans (digs_len b _ _)
    have hl2 : (Pre ++ ds).length = Pre.length + (d + 1) / 2 := by rw [List.length_append, hl]
    have hk2 := half_add (d + 1)
    rw [← hfo]
    have e : b * ((d + 1) / 2) + b * (d + 1 - (d + 1) / 2) = b * (d + 1) := by rw [← Nat.mul_add, hk2]
    refine inC_mono H.2.2.1 ?_ (ih (d + 1 - (d + 1) / 2) (Nat.lt_succ_of_le H.2.2.1) (x / 2 ^ (b * ((d + 1) / 2))) _ _ _ (Pre ++ ds) (M.drop ((d + 1) / 2)) Suf H.2.2.2 (Nat.le_trans (Nat.mul_le_mul_left b (Nat.sub_le _ _)) hbk) (by simp only [List.append_assoc]) (by rw [List.length_drop, hM]) (by rw [hl2]; exact mid_eq _ _) (by rw [hl2, Nat.add_assoc, hk2]; exact hP) (by rw [hl2, Nat.add_assoc, hk2]) hq0 ?_)
    · intro ws' hws'
      obtain ⟨ds', rfl, hds'⟩ := hws'
      refine ⟨ds ++ ds', by simp only [List.append_assoc], ?_⟩
      have := digs_split b (d + 1 - (d + 1) / 2) ((d + 1) / 2) x
      rw [hk2] at this
      rw [this]
      exact ints_app hds hds'
    · refine Int.ediv_lt_of_lt_mul (p2 _) ?_
      rw [← Int.pow_add, Nat.add_comm, e]
      exact hx1
end
section
theorem fill_InnC : K = K ∧ PySem.Challenge.rw_sn0097_01 = PySem.Challenge.rw_sn0097_01 := by k_fill; exact ⟨rfl, rfl⟩
theorem r_fdq {w : World} {A : Around} {E : Value → Shared → Prop} {s : Shared} {Q : Value → Shared → Prop} {a b : Int} {t u : Tok} (k : Nat) (e : a / b = k) (hb : 0 < b ∧ 0 ≤ a ∧ a ≤ 1000 ∧ b ≤ 1000) (h : Q (.int (k : Int) s.toks) { s with toks := s.toks + 1 }) :
    wpAny (model pgm w) A (binaryOp .FloorDiv (.int a t) (.int b u)) Q E s := by
  refine floordiv_int (by omega) ?_ (Or.inl (PyProof.noPylong_small (by omega)))
  rw [Int.fdiv_eq_ediv_of_nonneg a (by omega), e]
  exact h
theorem r_zeros {w : World} {A : Around} {E : Value → Shared → Prop} {s : Shared} {h₀ : Heap} {L : Addr} {m : Str → Option Value} {news : List (Addr × Obj)} {Q : Value → Shared → Prop} {l : Addr} {k : Nat} {t u : Tok} {n : Nat} (hk : k ≤ 8) (F : Fr h₀ L s.heap m) (N : News h₀ L s.heap news) (hm : (l, listOf #[.int 0 t] n) ∈ news)
    (h : ∀ D h', Fr h₀ L h' m → News h₀ L h' ((D, listOf (List.toArray (List.replicate k (.int 0 t))) 0) :: news) → (∀ p ∈ news, p.1 < D) → Q (.ref D) { s with heap := h' }) : wpAny (model pgm w) A (binaryOp .Mult (.ref l) (.int (k : Int) u)) Q E s := by
  refine KMa.mul (vs := [.int 0 t]) F N (N.isList hm) (by omega) (by omega) (by rw [Int.toNat_natCast]; show 1 * k ≤ 256; omega) ?_ h
  rw [Int.toNat_natCast]
  clear hm h
  induction k with
  | zero => rfl
  | succ k ih => rw [List.replicate_succ, List.flatten_cons, ih (by omega)]; rfl
theorem len_rep {k : Nat} {v : Value} : (((List.replicate k v).toArray.size : Nat) : Int) = k := by simp
theorem off_of {D c x : Addr} (h : @LT.lt Nat _ D c ∨ @LT.lt Nat _ c D ∨ ¬ (@LT.lt Nat _ D x ∨ @LT.lt Nat _ x D)) (hx : @LT.lt Nat _ x D) : @Ne Nat c D := by
  rcases h with h | h | h
  · exact Nat.ne_of_gt h
  · exact Nat.ne_of_lt h
  · exact absurd (Or.inr hx) h
theorem lt1 {x L : Addr} (h : @LT.lt Nat _ x L) : @LT.lt Nat _ x (L + 1) := Nat.lt_succ_of_lt h
theorem lt2 {x L : Addr} (h : @LT.lt Nat _ x L) : @LT.lt Nat _ x (L + 1 + 1) := lt1 (lt1 h)
theorem lt3 {x L : Addr} (h : @LT.lt Nat _ x L) : @LT.lt Nat _ x (L + 1 + 1 + 1) := lt1 (lt2 h)
theorem bits_q {a : Int} {b k : Nat} (hb : b = 1 ∨ b = 2) (h0 : 0 ≤ a) (h1 : a < 2 ^ (b * k)) (h2 : k = 0 ∨ 1 ≤ k ∧ 2 ^ (b * (k - 1)) ≤ a) : (((Builtin.Int.intBits a : Nat) : Int) + (b : Int) - 1) / (b : Int) = (k : Int) := by
  have c : ∀ m : Nat, ((2 ^ m : Nat) : Int) = (2 : Int) ^ m := fun m => by rw [Int.natCast_pow]; rfl
  have i1 : Builtin.Int.intBits a ≤ b * k := (intBits_le_iff (m := b * k) (x := a)).mpr (by have := c (b * k); omega)
  have i2 : 1 ≤ k → 2 ^ (b * (k - 1)) ≤ a → ¬ Builtin.Int.intBits a ≤ b * (k - 1) := fun _ h q => by
    have := (intBits_le_iff (m := b * (k - 1)) (x := a)).mp q
    have := c (b * (k - 1)); omega
  have i3 : k = 0 ∨ b * (k - 1) < Builtin.Int.intBits a := h2.imp id fun h => by have := i2 h.1 h.2; omega
  rcases hb with rfl | rfl <;> omega
local macro_rules | `(tactic| walk_at "call ref") => `(tactic| refine Stuck.out ?_)
local macro_rules | `(tactic| walk_at "exec FunctionDef") => `(tactic| refine Stuck.out ?_)
local macro_rules | `(tactic| walk_at "binaryOp Mult ref int") => `(tactic| refine Stuck.out ?_)
local macro_rules | `(tactic| walk_at "call builtin:len") => `(tactic| refine Stk.out (k := 5) ?_)
local macro_rules | `(tactic| walk_at "binaryOp FloorDiv int int") => `(tactic| refine Stk.out (k := 6) ?_)
local macro_rules | `(tactic| k_room) => `(tactic| (ktr_room))
theorem fresh1 {D P x : Addr} {o : Obj} (h1 : @LT.lt Nat _ P D) (h2 : @LT.lt Nat _ x D) : ∀ q ∈ [(D, o)], q.1 ∉ [P, x] := fun q hq => by
  rw [List.mem_singleton] at hq
  subst hq
  intro h
  rcases List.mem_cons.mp h with h | h
  · exact absurd h1 (by rw [show P = D from h.symm]; exact Nat.lt_irrefl _)
  · rw [List.mem_singleton] at h
    exact absurd h2 (by rw [show x = D from h.symm]; exact Nat.lt_irrefl _)
set_option maxHeartbeats 4000000 in
theorem c_i2 (w : World) (a n : Int) (ta tn : Tok) (b k : Nat) (hb : b = 1 ∨ b = 2) (hn : n = (b : Int)) (hk4 : k ≤ 4) (ha0 : 0 ≤ a) (ha1 : a < 2 ^ (b * k)) (ha2 : k = 0 ∨ 1 ≤ k ∧ 2 ^ (b * (k - 1)) ≤ a) (o : Obj) (x : Addr) (ox : Obj) (S : St 44 80 4 q1 o x ox) (hx : @LT.lt Nat _ x 44 ∨ @LT.lt Nat _ 44 x) :
    Core w 49 8 [(44, o), (x, ox)] [.int a ta, .int n tn] (tabR 44 80 4 q1 x ox (Dig (digs b k a))) := by
  have hq : (((Builtin.Int.intBits a : Nat) : Int) + n - 1) / n = (k : Int) := by rw [hn]; exact bits_q hb ha0 ha1 ha2
  have hbk : b * k ≤ 8 := by rcases hb with rfl | rfl <;> omega
  have hq2 : 0 < n ∧ 0 ≤ ((Builtin.Int.intBits a : Nat) : Int) + n - 1 ∧ ((Builtin.Int.intBits a : Nat) : Int) + n - 1 ≤ 1000 ∧ n ≤ 1000 := by
    have := bits_lt (a := a) (m := 8) (k := 256) rfl ha0 (by have := pow_le8 hbk; omega)
    rcases hb with rfl | rfl <;> omega
  have h0k : a = 0 → k = 0 := fun h => by
    rcases ha2 with h2 | ⟨_, h2⟩
    · exact h2
    · have := p2 (b * (k - 1)); omega
  have h1k : ¬ a = 0 → 1 ≤ k := fun h => by
    rcases ha2 with h2 | ⟨h2, _⟩
    · subst h2; rw [Nat.mul_zero] at ha1; exfalso; simp at ha1; omega
    · exact h2
  first | k_dflt ((refine' core_plain ?zho ?zhcd ?zhb ?zhl ?zhdep ?zhcell ?zhco ?zhgen ?zhk ?_; (case zho => k_is); (case zhcd => k_is); (case zhcell => decide); (case zhb => exact fun _ => rfl); (case zhl => exact locs rfl); (case zhdep => decide); (case zhco => exact rfl); (case zhgen => exact rfl); (case zhk => exact rfl); k_whole)) | k_dflt ((refine' core_cells ?zho ?zhcd ?zhb ?zhki ?zhnd ?zhdep ?zhco ?zhgen ?zhk ?_; (case zho => k_is); (case zhcd => k_is); (case zhb => exact fun _ => rfl); (case zhki => exact rfl); (case zhnd => decide +kernel); (case zhdep => decide); (case zhco => exact rfl); (case zhgen => exact rfl); (case zhk => exact rfl); k_whole)) | fail "enter"
  intro p loose mean mg mb dp un gd cn cs a' ccd cl outer L base g L' cells s Qf Er F N Y hlt B X T hk hd hu hret
  k_lt hlt
  k_cells Y
  simp only [List.cons_append, List.nil_append] at N
  have C1 : CodeHd g 48 44 := codeHd_of_K X (by kernel_rfl)
  repeat' ((first | (k_unfold; (try dsimp only)) | (k_end; kc_close) | walk1 | (dsimp only; walk1) | (leave1; walk_say "STEP leave1"; (try dsimp only)) | fail "no step") <;> (repeat' (first
    | (refine Stk.mk (k := 5) ?_; with_reducible ((k_here; (with_reducible show wpAny _ _ (call (Value.builtin "len") [Value.ref _]) _ _ _); k_dflt (refine' kun_lenL ?k1 ?k2 ?k3 ?_; (case k1 => exact News.isList (by k_asm) (by k_mem)); (case k2 => exact len_rep); (case k3 => omega); k_whole))))
    | (refine Stk.mk (k := 6) ?_; with_reducible ((k_here; ((with_reducible refine' r_fdq _ ?e ?b ?_); (case e => with_reducible assumption); (case b => with_reducible assumption))))))))
  refine ⟨?_⟩
  refine' r_zeros ?k ?F ?N ?l ?_
  case k => omega
  case F => k_asm
  case N => k_asm
  case l => k_mem
  intro D h1 F1 N1 l1
  k_lt l1
  repeat' ((first | (k_unfold; (try dsimp only)) | (k_end; kc_close) | walk1 | (dsimp only; walk1) | (leave1; walk_say "STEP leave1"; (try dsimp only)) | fail "no step") <;> (repeat' (first
    | (refine Stk.mk (k := 5) ?_; with_reducible ((k_here; (with_reducible show wpAny _ _ (call (Value.builtin "len") [Value.ref _]) _ _ _); k_dflt (refine' kun_lenL ?k1 ?k2 ?k3 ?_; (case k1 => exact News.isList (by k_asm) (by k_mem)); (case k2 => exact len_rep); (case k3 => omega); k_whole))))
    | (refine Stk.mk (k := 6) ?_; with_reducible ((k_here; ((with_reducible refine' r_fdq _ ?e ?b ?_); (case e => with_reducible assumption); (case b => with_reducible assumption))))))))
  refine ⟨?_⟩
  k_dflt (refine' nestDef_K ?d0 ?k0 ?a0 ?_; (case d0 => exact rfl); (case k0 => exact rfl); (case a0 => exact rfl))
  k_dflt (refine' nest_any ?F ?N ?T ?C ?cd ?U ?S ?mx ?xP ?cl ?_; (case F => k_asm); (case N => k_asm); (case T => k_asm); (case cd => exact rfl); (case C => kn_code); (case U => k_updF); (case S => assumption); (case mx => k_mem); (case xP => omega); (case cl => exact rfl); k_whole)
  intro f' c' oc vsc tc ct dc h2 tk2 F2 N2 d1 d2 l1 l3 l2 l4
  (try dsimp only at N2)
  have hxL : @LT.lt Nat _ x L' := hlt.2
  have nD : @Ne Nat c' D := off_of (l1 _ (show (D, _) ∈ _ by k_mem)) (by omega)
  have n3 : @Ne Nat c' (L' + 1 + 1 + 1) := off_of (l1 _ (show (L' + 1 + 1 + 1, _) ∈ _ by k_mem)) (lt3 hxL)
  have n2 : @Ne Nat c' (L' + 1 + 1) := off_of (l1 _ (show (L' + 1 + 1, _) ∈ _ by k_mem)) (lt2 hxL)
  have n1 : @Ne Nat c' (L' + 1) := off_of (l1 _ (show (L' + 1, _) ∈ _ by k_mem)) (lt1 hxL)
  clear l1
  k_lt l3
  k_lt2 l2
  repeat' ((first | (k_unfold; (try dsimp only)) | (k_end; kc_close) | walk1 | (dsimp only; walk1) | (leave1; walk_say "STEP leave1"; (try dsimp only)) | fail "no step") <;> (repeat' (first
    | (refine Stk.mk (k := 5) ?_; with_reducible ((k_here; (with_reducible show wpAny _ _ (call (Value.builtin "len") [Value.ref _]) _ _ _); k_dflt (refine' kun_lenL ?k1 ?k2 ?k3 ?_; (case k1 => exact News.isList (by k_asm) (by k_mem)); (case k2 => exact len_rep); (case k3 => omega); k_whole))))
    | (refine Stk.mk (k := 6) ?_; with_reducible ((k_here; ((with_reducible refine' r_fdq _ ?e ?b ?_); (case e => with_reducible assumption); (case b => with_reducible assumption))))))))
  · refine ⟨?_⟩
    refine' use_turn (rest := restI f' _ c' oc _ _ _ _ _ _) (c_in w f' c' D (L' + 1 + 1 + 1) (L' + 1 + 1) (L' + 1) oc _ _ _ _ _ _ n tn b ?hb hn ⟨_, _, d1, d2⟩ ?di ?da ?dn ?ne _ ?fo k a 0 (k : Int) _ [] _ [] ?k1 hbk ?vs ?M ?L ?P ?R ha0 ha1 _ _ _ _) ?hs ?B ?F ?X ?N ?T ?hk ?hd ?hu ?U ?_
    case N => k_asm
    case F => k_asm
    case B => k_asm
    case X => k_asm
    case T => k_asm
    case di => assumption
    case da => assumption
    case dn => assumption
    case hs => exact subC (by k_mem) (subC (by k_mem) (subC (by k_mem) (subC (by k_mem) (subC (by k_mem) (subC (by k_mem) sub0)))))
    case fo => exact rfl
    case vs => exact (List.append_nil _).symm
    case M => exact List.length_replicate
    case hb => omega
    case ne => exact ⟨(show @Ne Nat f' D by omega), nD, (show @Ne Nat (L' + 1 + 1 + 1) D by omega), (show @Ne Nat (L' + 1 + 1) D by omega), (show @Ne Nat (L' + 1) D by omega)⟩
    case k1 => exact h1k (by assumption)
    case L => rfl
    case P => show 0 + k ≤ 16; omega
    case R => show (k : Int) = ((0 + k : Nat) : Int); rw [Nat.zero_add]
    case hk => exact rfl
    case hd => omega
    case hu => omega
    case U => k_updF
    intro vs9 n9 h9 tk9 hP9 F9 N9
    obtain ⟨ds, rfl, hds⟩ := hP9
    (try dsimp only at N9)
    repeat' ((first | (k_unfold; (try dsimp only)) | (k_end; kc_close) | walk1 | (dsimp only; walk1) | (leave1; walk_say "STEP leave1"; (try dsimp only)) | fail "no step") <;> (repeat' (first
    | (refine Stk.mk (k := 5) ?_; with_reducible ((k_here; (with_reducible show wpAny _ _ (call (Value.builtin "len") [Value.ref _]) _ _ _); k_dflt (refine' kun_lenL ?k1 ?k2 ?k3 ?_; (case k1 => exact News.isList (by k_asm) (by k_mem)); (case k2 => exact len_rep); (case k3 => omega); k_whole))))
    | (refine Stk.mk (k := 6) ?_; with_reducible ((k_here; ((with_reducible refine' r_fdq _ ?e ?b ?_); (case e => with_reducible assumption); (case b => with_reducible assumption))))))))
    refine' hret _ ([(_, _)] ++ [_, _, (x, ox)]) _ _ _ ⟨_, _, _, ⟨_, _, _, rfl, rfl, ?kd1⟩, ⟨_, _, d1, d2⟩, rfl, ?kf1, by assumption⟩ ?F1 ?N1
    case F1 => k_asm
    case N1 => exact news_sub (by k_asm) (subC (by k_mem) (subC (by k_mem) (subC (by k_mem) (subC (by k_mem) sub0))))
    case kd1 => rw [List.nil_append, List.append_nil]; exact hds
    case kf1 => exact fresh1 (by omega) (by omega)
  · have := h0k (by assumption)
    subst this
    refine' hret _ ([(_, _)] ++ [_, _, (x, ox)]) _ _ _ ⟨_, _, _, ⟨_, _, _, rfl, rfl, ?kd⟩, ⟨_, _, d1, d2⟩, rfl, ?kf, by assumption⟩ ?F2 ?N2
    case F2 => k_asm
    case N2 => exact news_sub (by k_asm) (subC (by k_mem) (subC (by k_mem) (subC (by k_mem) (subC (by k_mem) sub0))))
    case kd => exact .nil
    case kf => exact fresh1 (by omega) (by omega)
end
section
theorem fill_InnD : K = K ∧ PySem.Challenge.rw_sn0097_01 = PySem.Challenge.rw_sn0097_01 := by k_fill; exact ⟨rfl, rfl⟩
inductive tabRK (P : Addr) (l c : Nat) (q : Str) (x : Addr) (ox : Obj) (kept : List (Addr × Obj)) (R : Value → List (Addr × Obj) → Prop) (r : Value) (out : List (Addr × Obj)) : Prop
  | mk (new : List (Addr × Obj)) (x' : Addr) (ox' : Obj) (fl1 : R r new) (fl2 : CodeOk q ox') (fl3 : out = new ++ ([madeTab P l c x', (x', ox'), (x, ox)] ++ kept)) (fl4 : (∀ q ∈ new, q.1 ∉ [P, x] ∧ q.1 ∉ kept.map (·.1))) (fl5 : (@LT.lt Nat _ x' P ∨ @LT.lt Nat _ P x')) : tabRK P l c q x ox kept R r out
local macro_rules | `(tactic| walk_at "call ref") => `(tactic| refine Stuck.out ?_)
local macro_rules | `(tactic| walk_at "exec FunctionDef") => `(tactic| refine Stuck.out ?_)
local macro_rules | `(tactic| walk_at "truthy ref") => `(tactic| refine Stuck.out ?_)
local macro_rules | `(tactic| walk_at "call builtin:len") => `(tactic| refine Stuck.out ?_)
local macro_rules | `(tactic| walk_at "subscriptTail Name Name ref int") => `(tactic| refine Stuck.out ?_)
local macro_rules | `(tactic| walk_at "binaryOp RShift int int") => `(tactic| (k_here; (with_reducible refine r_half ?_)))
local macro_rules | `(tactic| walk_at "binaryOp LShift int int") => `(tactic| refine Stk.out (k := 3) ?_)
local macro_rules | `(tactic| walk_at "binaryOp Mult int int") => `(tactic| (with_reducible refine mul_int ?_ (by assumption)))
local macro_rules | `(tactic| k_room) => `(tactic| (ktr_room))
noncomputable def undig (b : Nat) : List Int → Int
  | [] => 0
  | d :: r => undig b r * 2 ^ b + d
theorem undig_app (b : Nat) (l2 : List Int) : ∀ l1 : List Int, undig b (l1 ++ l2) = undig b l2 * 2 ^ (b * l1.length) + undig b l1
  | [] => by simp [undig]
  | d :: r => by
    show undig b (r ++ l2) * 2 ^ b + d = undig b l2 * 2 ^ (b * (r.length + 1)) + (undig b r * 2 ^ b + d)
    rw [undig_app b l2 r, Nat.mul_add, Nat.mul_one, Int.pow_add, Int.add_mul, Int.mul_assoc, Int.add_assoc]
theorem undig_lt {b : Nat} (hb : b = 1 ∨ b = 2) : ∀ l : List Int, (∀ d ∈ l, 0 ≤ d ∧ d < 16) → 0 ≤ undig b l ∧ undig b l < 16 ^ l.length
  | [], _ => by simp [undig]
  | d :: r, h => by
    have h1 := undig_lt hb r fun x hx => h x (.tail _ hx)
    have h2 := h d (.head _)
    show 0 ≤ undig b r * 2 ^ b + d ∧ undig b r * 2 ^ b + d < 16 ^ (r.length + 1)
    rw [Int.pow_succ]
    rcases hb with rfl | rfl <;> (simp only [Int.reducePow]; omega)
theorem undig_ok {b : Nat} (hb : b = 1 ∨ b = 2) (l : List Int) (h : ∀ d ∈ l, 0 ≤ d ∧ d < 16) (hl : l.length ≤ 4) : (undig b l).natAbs < 100000 := by
  have h1 := undig_lt hb l h
  have h2 : (16 : Int) ^ l.length ≤ 65536 := (by decide : ∀ j : Fin 5, (16 : Int) ^ j.val ≤ 65536) ⟨_, Nat.lt_succ_of_le hl⟩
  omega
noncomputable abbrev restD (l : Addr) (ol : Obj) (f : Addr) (fo : Obj) (c' : Addr) (oc : Obj) (ci : Addr) (oi : Obj) (cd : Addr) (od : Obj) (cn : Addr) (on : Obj) : List (Addr × Obj) := [(l, ol), (f, fo), (c', oc), (ci, oi), (cd, od), (cn, on)]
/-- inner of _digits2int over the list at l -/
noncomputable def InD (w : World) (f c' l ci cd cn : Addr) (ol oc oi od on : Obj) (d : Nat) (L R v : Int) (fo : Obj) : Prop :=
  ∀ tL tR, Spec w f d (restD l ol f fo c' oc ci oi cd od cn on) [.int L tL, .int R tR] (isInt v)
set_option maxHeartbeats 4000000 in
theorem in_walk2 (w : World) (f c' l ci cd cn : Addr) (oc oi od on : Obj) (doc pm ct : Value) (n L R v v1 v2 : Int) (tn : Tok) (j d e : Nat) (vs : List Value) (ds : List Int) (hI : IntsAre vs ds) (hlen : ds.length ≤ 16)
    (hoc : CodeOk q2 oc) (hdi : oi.data = .cell (some (.ref f))) (hdd : od.data = .cell (some (.ref l))) (hdn : on.data = .cell (some (.int n tn)))
    (hj : j ≤ 8) (hsh : ((L + R) / 2 - L) * n = (j : Int)) (hmul : IntMulOk ((L + R) / 2 - L) n) (hup : v1.natAbs < 100000)
    (leaf : L + 1 = R → 0 ≤ L ∧ L < ds.length ∧ ds.getD L.toNat 0 = v) (node : L + 1 ≠ R → v1 * 2 ^ j + v2 = v) :
    (fun fo => (L + 1 ≠ R → InD w f c' l ci cd cn (listOf (List.toArray vs) e) oc oi od on d ((L + R) / 2) R v1 fo) → (L + 1 ≠ R → InD w f c' l ci cd cn (listOf (List.toArray vs) e) oc oi od on d L ((L + R) / 2) v2 fo) →
      InD w f c' l ci cd cn (listOf (List.toArray vs) e) oc oi od on (d + 1) L R v fo) (inFn (inSt 11 0) q2 [(Str.ofString "n", cn), (Str.ofString "inner", ci), (Str.ofString "digits", cd)] doc pm c' ct) := by
  refine in_lit (P := fun fo => (L + 1 ≠ R → InD w f c' l ci cd cn (listOf (List.toArray vs) e) oc oi od on d ((L + R) / 2) R v1 fo) → (L + 1 ≠ R → InD w f c' l ci cd cn (listOf (List.toArray vs) e) oc oi od on d L ((L + R) / 2) v2 fo) →
      InD w f c' l ci cd cn (listOf (List.toArray vs) e) oc oi od on (d + 1) L R v fo) (by exact rfl) ?_
  intro I1 I2 tL tR
  refine core_nest (.tail _ (.head _)) (.tail _ (.tail _ (.head _))) hoc (by exact rfl) (locs rfl) (by omega) (by decide) rfl rfl rfl ?_
  intro p loose mean mg mb dp un gd cn' outer base g L' s Qf F N B X T hd hu hret
  have C1 : CodeHd g 55 51 := codeHd_of_K X (by kernel_rfl)
  repeat' ((first | (k_unfold; (try dsimp only)) | (k_end; kc_close) | walk1 | (dsimp only; walk1) | (leave1; walk_say "STEP leave1"; (try dsimp only)) | fail "no step") <;> (repeat' (first
    | (refine Stk.mk (k := 3) ?_; with_reducible ((k_here; ((with_reducible refine' r_shl _ ?e ?j ?a ?_); (case e => with_reducible assumption); (case j => with_reducible assumption); (case a => with_reducible assumption))))))))
  · refine ⟨?_⟩
    obtain ⟨h0, h1, hq⟩ := leaf (by assumption)
    refine item_list_ints (News.isList (by k_asm) (.head _)) hI h0 h1 (by omega) (fun t => ?_)
    rw [hq]
    repeat' ((first | (k_unfold; (try dsimp only)) | (k_end; kc_close) | walk1 | (dsimp only; walk1) | (leave1; walk_say "STEP leave1"; (try dsimp only)) | fail "no step") <;> (repeat' (first
    | (refine Stk.mk (k := 3) ?_; with_reducible ((k_here; ((with_reducible refine' r_shl _ ?e ?j ?a ?_); (case e => with_reducible assumption); (case j => with_reducible assumption); (case a => with_reducible assumption))))))))
    exact hret _ _ _ _ _ (of_int rfl) (by k_asm) (by k_asm)
  · refine ⟨?_⟩
    refine' use_int (I1 (by assumption) _ _) ?hs ?B ?F ?X ?N ?T ?hk ?hd ?hu ?_
    case hs => exact fun _ h => h
    case hk => exact rfl
    case hd => omega
    case hu => omega
    case B => k_asm
    case F => k_asm
    case X => k_asm
    case N => k_asm
    case T => k_asm
    intro t1 h1 tk1 F1 N1
    repeat' ((first | (k_unfold; (try dsimp only)) | (k_end; kc_close) | walk1 | (dsimp only; walk1) | (leave1; walk_say "STEP leave1"; (try dsimp only)) | fail "no step") <;> (repeat' (first
    | (refine Stk.mk (k := 3) ?_; with_reducible ((k_here; ((with_reducible refine' r_shl _ ?e ?j ?a ?_); (case e => with_reducible assumption); (case j => with_reducible assumption); (case a => with_reducible assumption))))))))
    refine ⟨?_⟩
    refine' use_int (I2 (by assumption) _ _) ?hs1 ?B1 ?F1 ?X1 ?N1 ?T1 ?hk1 ?hd1 ?hu1 ?_
    case hs1 => exact fun _ h => h
    case hk1 => exact rfl
    case hd1 => omega
    case hu1 => omega
    case B1 => k_asm
    case F1 => k_asm
    case X1 => k_asm
    case N1 => k_asm
    case T1 => k_asm
    intro t2 h2 tk2 F2 N2
    repeat' ((first | (k_unfold; (try dsimp only)) | (k_end; kc_close) | walk1 | (dsimp only; walk1) | (leave1; walk_say "STEP leave1"; (try dsimp only)) | fail "no step") <;> (repeat' (first
    | (refine Stk.mk (k := 3) ?_; with_reducible ((k_here; ((with_reducible refine' r_shl _ ?e ?j ?a ?_); (case e => with_reducible assumption); (case j => with_reducible assumption); (case a => with_reducible assumption))))))))
    exact hret _ _ _ _ _ (of_int (node (by assumption))) (by k_asm) (by k_asm)
theorem inD_mono {w : World} {f c' l ci cd cn : Addr} {ol oc oi od on : Obj} {d1 d2 : Nat} {L R v : Int} {fo : Obj} (hd : d1 ≤ d2) (C : InD w f c' l ci cd cn ol oc oi od on d1 L R v fo) : InD w f c' l ci cd cn ol oc oi od on d2 L R v fo :=
  fun tL tR => core_mono hd (fun _ _ h => h) (C tL tR)
theorem c_in2 (w : World) (f c' l ci cd cn : Addr) (oc oi od on : Obj) (doc pm ct : Value) (n : Int) (tn : Tok) (b e : Nat) (hb : b = 1 ∨ b = 2) (hn : n = b) (vs : List Value) (ds : List Int) (hI : IntsAre vs ds) (hlen : ds.length ≤ 4) (hds : ∀ d ∈ ds, 0 ≤ d ∧ d < 16)
    (hoc : CodeOk q2 oc) (hdi : oi.data = .cell (some (.ref f))) (hdd : od.data = .cell (some (.ref l))) (hdn : on.data = .cell (some (.int n tn)))
    (fo : Obj) (hfo : fo = inFn (inSt 11 0) q2 [(Str.ofString "n", cn), (Str.ofString "inner", ci), (Str.ofString "digits", cd)] doc pm c' ct) :
    ∀ (k : Nat) (L R : Int) (Pre M Suf : List Int), 1 ≤ k → ds = Pre ++ M ++ Suf → M.length = k → L = Pre.length → R = ((Pre.length + k : Nat) : Int) →
      InD w f c' l ci cd cn (listOf (List.toArray vs) e) oc oi od on k L R (undig b M) fo := by
  intro k
  induction k using Nat.strongRecOn with
  | _ k ih =>
  intro L R Pre M Suf hk hvs hM hL hR
  subst hL hR hn
  have hle : Pre.length + k + Suf.length ≤ 4 := by rw [hvs, List.length_append, List.length_append, hM] at hlen; exact hlen
  have hk4 : k ≤ 4 := Nat.le_trans (Nat.le_add_left k _) (Nat.le_trans (Nat.le_add_right _ _) hle)
  have hj : b * (k / 2) ≤ 8 := by
    refine Nat.le_trans (Nat.mul_le_mul_left b (Nat.le_trans (Nat.div_le_self k 2) hk4)) ?_
    rcases hb with rfl | rfl <;> decide
  have hsh : (((Pre.length : Int) + ((Pre.length + k : Nat) : Int)) / 2 - (Pre.length : Int)) * (b : Int) = ((b * (k / 2) : Nat) : Int) := by
    rw [mid_eq, mid_sub, Int.natCast_mul, Int.mul_comm]
  have hmul : IntMulOk (((Pre.length : Int) + ((Pre.length + k : Nat) : Int)) / 2 - (Pre.length : Int)) (b : Int) := by
    rw [mid_eq, mid_sub]
    exact mul_k (Nat.le_trans (Nat.div_le_self k 2) (Nat.le_trans hk4 (by decide)))
  have hin : ∀ d ∈ M.drop (k / 2), 0 ≤ d ∧ d < 16 := fun d hd => hds d (by rw [hvs]; exact List.mem_append_left _ (List.mem_append_right _ (List.mem_of_mem_drop hd)))
  have hbd := undig_ok hb _ hin (Nat.le_trans (by rw [List.length_drop]; exact Nat.sub_le _ _) (hM ▸ hk4))
  rw [hfo]
  obtain ⟨d, rfl⟩ : ∃ d, k = d + 1 := ⟨k - 1, (Nat.sub_add_cancel hk).symm⟩
  refine in_walk2 w f c' l ci cd cn oc oi od on doc pm ct (b : Int) _ _ _ (undig b (M.drop ((d + 1) / 2))) (undig b (M.take ((d + 1) / 2))) tn (b * ((d + 1) / 2)) d e vs ds hI (Nat.le_trans hlen (by decide)) hoc hdi hdd hdn hj hsh hmul hbd ?leaf ?node ?I1 ?I2
  case leaf =>
    intro h
    have hd0 : d = 0 := Nat.succ.inj (one_k h)
    subst hd0
    obtain ⟨v, rfl⟩ : ∃ v, M = [v] := by
      match M, hM with
      | [v], _ => exact ⟨v, rfl⟩
    refine ⟨Int.natCast_nonneg _, ?_, ?_⟩
    · rw [hvs]; simp only [List.length_append, List.length_singleton]; exact Int.ofNat_lt.mpr (Nat.lt_of_lt_of_le (Nat.lt_succ_self _) (Nat.le_add_right _ _))
    · rw [hvs, Int.toNat_natCast]
      simp [undig]
  case node =>
    intro h
    have := undig_app b (M.drop ((d + 1) / 2)) (M.take ((d + 1) / 2))
    rw [List.take_append_drop, List.length_take, hM, Nat.min_eq_left (Nat.div_le_self _ 2)] at this
    exact this.symm
  case I1 =>
    intro h
    have H := half (two_k hk h)
    have hk2 := half_add (d + 1)
    have hl2 : (Pre ++ M.take ((d + 1) / 2)).length = Pre.length + (d + 1) / 2 := by rw [List.length_append, List.length_take, hM, Nat.min_eq_left (Nat.div_le_self _ 2)]
    rw [← hfo]
    refine inD_mono H.2.2.1 (ih (d + 1 - (d + 1) / 2) (Nat.lt_succ_of_le H.2.2.1) _ _ (Pre ++ M.take ((d + 1) / 2)) (M.drop ((d + 1) / 2)) Suf H.2.2.2 ?_ (by rw [List.length_drop, hM]) (by rw [hl2]; exact mid_eq _ _) (by rw [hl2, Nat.add_assoc, hk2]))
    rw [hvs, seg_split Pre M Suf ((d + 1) / 2)]; simp only [List.append_assoc]
  case I2 =>
    intro h
    have H := half (two_k hk h)
    rw [← hfo]
    exact inD_mono H.1 (ih ((d + 1) / 2) (Nat.lt_succ_of_le H.1) _ _ Pre (M.take ((d + 1) / 2)) (M.drop ((d + 1) / 2) ++ Suf) H.2.1 (hvs.trans (seg_split Pre M Suf _)) (by rw [List.length_take, hM]; exact Nat.min_eq_left (Nat.div_le_self _ 2)) rfl (mid_eq _ _))

set_option maxHeartbeats 4000000 in
theorem c_d2i (w : World) (l : Addr) (vs : List Value) (ds : List Int) (n : Int) (b k : Nat) (e : Nat) (tn : Tok) (hI : IntsAre vs ds) (hk : ds.length = k) (hk4 : k ≤ 4) (hb : b = 1 ∨ b = 2) (hn : n = (b : Int)) (hd0 : ∀ d ∈ ds, 0 ≤ d ∧ d < 16) (o : Obj) (x : Addr) (ox : Obj) (S : St 51 95 4 q2 o x ox) (hx : @LT.lt Nat _ x 51 ∨ @LT.lt Nat _ 51 x) (hl : @LT.lt Nat _ l 51 ∨ @LT.lt Nat _ 51 l) :
    Core w 56 8 [(l, listOf (List.toArray vs) e), (51, o), (x, ox)] [.ref l, .int n tn] (tabRK 51 95 4 q2 x ox [(l, listOf (List.toArray vs) e)] (isInt (undig b ds))) := by
  first | k_dflt ((refine' core_plain ?zho ?zhcd ?zhb ?zhl ?zhdep ?zhcell ?zhco ?zhgen ?zhk ?_; (case zho => k_is); (case zhcd => k_is); (case zhcell => decide); (case zhb => exact fun _ => rfl); (case zhl => exact locs rfl); (case zhdep => decide); (case zhco => exact rfl); (case zhgen => exact rfl); (case zhk => exact rfl); k_whole)) | k_dflt ((refine' core_cells ?zho ?zhcd ?zhb ?zhki ?zhnd ?zhdep ?zhco ?zhgen ?zhk ?_; (case zho => k_is); (case zhcd => k_is); (case zhb => exact fun _ => rfl); (case zhki => exact rfl); (case zhnd => decide +kernel); (case zhdep => decide); (case zhco => exact rfl); (case zhgen => exact rfl); (case zhk => exact rfl); k_whole)) | fail "enter"
  intro p loose mean mg mb dp un gd cn cs a' ccd cl outer L base g L' cells s Qf Er F N Y hlt B X T hk' hd hu hret
  k_lt hlt
  k_cells Y
  simp only [List.cons_append, List.nil_append] at N
  have C1 : CodeHd g 55 51 := codeHd_of_K X (by kernel_rfl)
  repeat' ((first | (k_unfold; (try dsimp only)) | (k_end; kc_close) | walk1 | (dsimp only; walk1) | (leave1; walk_say "STEP leave1"; (try dsimp only)) | fail "no step") <;> (repeat' (first
    | (refine Stk.mk (k := 3) ?_; with_reducible ((k_here; ((with_reducible refine' r_shl _ ?e ?j ?a ?_); (case e => with_reducible assumption); (case j => with_reducible assumption); (case a => with_reducible assumption))))))))
  refine ⟨?_⟩
  k_dflt (refine' nestDef_K ?d0 ?k0 ?a0 ?_; (case d0 => exact rfl); (case k0 => exact rfl); (case a0 => exact rfl))
  k_dflt (refine' nest_any ?F ?N ?T ?C ?cd ?U ?S ?mx ?xP ?cl ?_; (case F => k_asm); (case N => k_asm); (case T => k_asm); (case cd => exact rfl); (case C => kn_code); (case U => k_updF); (case S => assumption); (case mx => k_mem); (case xP => omega); (case cl => exact rfl); k_whole)
  intro f' c' oc vsc tc ct dc h2 tk2 F2 N2 d1 d2 l1 l3 l2 l4
  (try dsimp only at N2)
  have hxL : @LT.lt Nat _ x L' := hlt.2.2
  have n3 : @Ne Nat c' (L' + 1 + 1 + 1) := off_of (l1 _ (show (L' + 1 + 1 + 1, _) ∈ _ by k_mem)) (lt3 hxL)
  have n2 : @Ne Nat c' (L' + 1 + 1) := off_of (l1 _ (show (L' + 1 + 1, _) ∈ _ by k_mem)) (lt2 hxL)
  have n1 : @Ne Nat c' (L' + 1) := off_of (l1 _ (show (L' + 1, _) ∈ _ by k_mem)) (lt1 hxL)
  clear l1
  k_lt l3
  k_lt2 l2
  repeat' ((first | (k_unfold; (try dsimp only)) | (k_end; kc_close) | walk1 | (dsimp only; walk1) | (leave1; walk_say "STEP leave1"; (try dsimp only)) | fail "no step") <;> (repeat' (first
    | (refine Stk.mk (k := 3) ?_; with_reducible ((k_here; ((with_reducible refine' r_shl _ ?e ?j ?a ?_); (case e => with_reducible assumption); (case j => with_reducible assumption); (case a => with_reducible assumption))))))))
  refine ⟨?_⟩
  refine truthy_ints_fit (News.isList (by k_asm) (by k_mem)) hI (by omega) ?_
  repeat' ((first | (k_unfold; (try dsimp only)) | (k_end; kc_close) | walk1 | (dsimp only; walk1) | (leave1; walk_say "STEP leave1"; (try dsimp only)) | fail "no step") <;> (repeat' (first
    | (refine Stk.mk (k := 3) ?_; with_reducible ((k_here; ((with_reducible refine' r_shl _ ?e ?j ?a ?_); (case e => with_reducible assumption); (case j => with_reducible assumption); (case a => with_reducible assumption))))))))
  · refine ⟨?_⟩
    refine kun_lenL (k := (k : Int)) (News.isList (by k_asm) (by k_mem)) (by rw [List.size_toArray, hI.length, hk]) (by omega) ?_
    repeat' ((first | (k_unfold; (try dsimp only)) | (k_end; kc_close) | walk1 | (dsimp only; walk1) | (leave1; walk_say "STEP leave1"; (try dsimp only)) | fail "no step") <;> (repeat' (first
    | (refine Stk.mk (k := 3) ?_; with_reducible ((k_here; ((with_reducible refine' r_shl _ ?e ?j ?a ?_); (case e => with_reducible assumption); (case j => with_reducible assumption); (case a => with_reducible assumption))))))))
    refine ⟨?_⟩
    have hk1 : 1 ≤ k := by first | omega | (simp at *; omega)
    refine' use_int (c_in2 w f' c' l (L' + 1 + 1 + 1) (L' + 1) (L' + 1 + 1) oc _ _ _ _ _ _ n tn b e hb hn vs ds hI ?le hd0 ⟨_, _, d1, d2⟩ ?di ?da ?dn _ ?fo k 0 (k : Int) [] ds [] hk1 ?vs hk ?L ?R _ _) ?hs ?B ?F ?X ?N ?T ?hk ?hd ?hu ?_
    case N => k_asm
    case F => k_asm
    case B => k_asm
    case X => k_asm
    case T => k_asm
    case di => assumption
    case da => assumption
    case dn => assumption
    case hs => exact subC (by k_mem) (subC (by k_mem) (subC (by k_mem) (subC (by k_mem) (subC (by k_mem) (subC (by k_mem) sub0)))))
    case fo => exact rfl
    case vs => exact (List.append_nil _).symm
    case le => omega
    case L => rfl
    case R => show (k : Int) = ((0 + k : Nat) : Int); rw [Nat.zero_add]
    case hk => exact rfl
    case hd => omega
    case hu => omega
    intro t9 h9 tk9 F9 N9
    repeat' ((first | (k_unfold; (try dsimp only)) | (k_end; kc_close) | walk1 | (dsimp only; walk1) | (leave1; walk_say "STEP leave1"; (try dsimp only)) | fail "no step") <;> (repeat' (first
    | (refine Stk.mk (k := 3) ?_; with_reducible ((k_here; ((with_reducible refine' r_shl _ ?e ?j ?a ?_); (case e => with_reducible assumption); (case j => with_reducible assumption); (case a => with_reducible assumption))))))))
    exact hret _ ([] ++ ([_, _, (x, ox)] ++ [(l, _)])) _ _ _ ⟨[], _, _, ⟨rfl, _, rfl⟩, ⟨_, _, d1, d2⟩, rfl, (fun _ h => nomatch h), by assumption⟩ (by k_asm) (news_sub (by k_asm) (subC (by k_mem) (subC (by k_mem) (subC (by k_mem) (subC (by k_mem) sub0)))))
  · have hk0 : ds = [] := by
      match ds, hk with
      | [], _ => rfl
      | _ :: _, _ => exfalso; simp at * <;> omega
    subst hk0
    exact hret _ ([] ++ ([_, _, (x, ox)] ++ [(l, _)])) _ _ _ ⟨[], _, _, ⟨rfl, _, rfl⟩, ⟨_, _, d1, d2⟩, rfl, (fun _ h => nomatch h), by assumption⟩ (by k_asm) (news_sub (by k_asm) (subC (by k_mem) (subC (by k_mem) (subC (by k_mem) (subC (by k_mem) sub0)))))
end
section
theorem core_to0 {w : World} {f : Addr} {dep : Nat} {wr : List (Addr × Obj)} {vs : List Value} {R R' : Value → List (Addr × Obj) → Prop} (C : Core w f dep wr vs R) (h : ∀ r out, R r out → R' r out) : Core w f dep wr vs R' := core_mono (Nat.le_refl _) h C
theorem r_fdl {w : World} {A : Around} {E : Value → Shared → Prop} {s : Shared} {Q : Value → Shared → Prop} (k : Int) {a b : Int} {t u : Tok} (e : a / b = k) (hb : 0 < b) (h : Q (.int k s.toks) { s with toks := s.toks + 1 }) (h0 : 0 ≤ a) (h1 : a ≤ 1000) (h2 : b ≤ 1000) :
    wpAny (model pgm w) A (binaryOp .FloorDiv (.int a t) (.int b u)) Q E s := by
  subst e
  refine floordiv_int (by omega) ?_ (Or.inl (PyProof.noPylong_small (by omega)))
  rw [Int.fdiv_eq_ediv_of_nonneg a (by omega)]
  exact h
end
section
theorem c_d2i_1_3 (w : World) (l : Addr) (d0 d1 d2 : Int) (t0 t1 t2 : Tok) (e : Nat) (tn : Tok) (h0 : 0 ≤ d0 ∧ d0 < 16) (h1 : 0 ≤ d1 ∧ d1 < 16) (h2 : 0 ≤ d2 ∧ d2 < 16) (o : Obj) (x : Addr) (ox : Obj) (S : St 51 95 4 q2 o x ox) (hx : @LT.lt Nat _ x 51 ∨ @LT.lt Nat _ 51 x) (hl : @LT.lt Nat _ l 51 ∨ @LT.lt Nat _ 51 l) :
    Core w 56 8 [(l, listOf #[.int d0 t0, .int d1 t1, .int d2 t2] e), (51, o), (x, ox)] [.ref l, .int 1 tn] (tabRK 51 95 4 q2 x ox [(l, listOf #[.int d0 t0, .int d1 t1, .int d2 t2] e)] (isInt (((d2 * 2 ^ 1 + d1) * 2 ^ 1 + d0)))) := by
  have C := c_d2i w l [.int d0 t0, .int d1 t1, .int d2 t2] [d0, d1, d2] 1 1 3 e tn (.cons _ _ (.cons _ _ (.cons _ _ .nil))) rfl (by decide) (.inl rfl) rfl (by simp only [List.forall_mem_cons]; exact ⟨h0, h1, h2, fun _ h => nomatch h⟩) o x ox S hx hl
  have e : undig 1 [d0, d1, d2] = ((d2 * 2 ^ 1 + d1) * 2 ^ 1 + d0) := by simp only [undig]; omega
  rw [e] at C
  exact C
end
section
theorem fill_Sub : K = K ∧ PySem.Challenge.rw_sn0097_01 = PySem.Challenge.rw_sn0097_01 := by k_fill; exact ⟨rfl, rfl⟩
noncomputable def lowN (c : Nat) : Nat := if 65 ≤ c ∧ c ≤ 90 then c + 32 else c
noncomputable def subCost (p q : Nat) : Int := if p = q then 0 else if lowN p = lowN q then 1 else 2
set_option maxHeartbeats 4000000 in
theorem c_sub (w : World) (x y : Nat) (tx ty : Tok) (hx : x < 128) (hy : y < 128) : Spec w 21 3 [] [.str ⟨#[x]⟩ tx, .str ⟨#[y]⟩ ty] (isInt (subCost x y)) := by
  first | k_dflt ((refine' core_plain ?zho ?zhcd ?zhb ?zhl ?zhdep ?zhcell ?zhco ?zhgen ?zhk ?_; (case zho => k_is); (case zhcd => k_is); (case zhcell => decide); (case zhb => exact fun _ => rfl); (case zhl => exact locs rfl); (case zhdep => decide); (case zhco => exact rfl); (case zhgen => exact rfl); (case zhk => exact rfl); k_whole)) | k_dflt ((refine' core_cells ?zho ?zhcd ?zhb ?zhki ?zhnd ?zhdep ?zhco ?zhgen ?zhk ?_; (case zho => k_is); (case zhcd => k_is); (case zhb => exact fun _ => rfl); (case zhki => exact rfl); (case zhnd => decide +kernel); (case zhdep => decide); (case zhco => exact rfl); (case zhgen => exact rfl); (case zhk => exact rfl); k_whole)) | fail "enter"
  intro p loose mean mg mb dp un gd cn cs a ccd cl outer L base g L' s Qf Er F N hlt B X T hk hd hu hret
  by_cases hxy : x = y
  · subst hxy
    k_steps
    exact hret _ _ _ _ _ (of_int (by simp [subCost])) (by k_asm) (by k_asm)
  · by_cases hl : lowN x = lowN y
    · k_steps
      refine r_lower (y := ⟨#[lowN x]⟩) (low_one hx) (by rfl) ?_
      intro _ _
      k_steps
      refine r_lower (y := ⟨#[lowN y]⟩) (low_one hy) (by rfl) ?_
      intro _ _
      k_steps
      exact hret _ _ _ _ _ (of_int (by simp [subCost, hxy, hl])) (by k_asm) (by k_asm)
    · k_steps
      refine r_lower (y := ⟨#[lowN x]⟩) (low_one hx) (by rfl) ?_
      intro _ _
      k_steps
      refine r_lower (y := ⟨#[lowN y]⟩) (low_one hy) (by rfl) ?_
      intro _ _
      k_steps
      exact hret _ _ _ _ _ (of_int (by simp [subCost, hxy, hl])) (by k_asm) (by k_asm)
end
section
theorem fill_Lev4 : K = K ∧ PySem.Challenge.rw_sn0097_01 = PySem.Challenge.rw_sn0097_01 := by k_fill; exact ⟨rfl, rfl⟩
local macro_rules | `(tactic| walk_at "execs cons") => `(tactic| (k_here; refine gen_toks ?_; intro tk; (try k_made); ((with_reducible refine wpAny_execs_cons ?_)); try dsimp only))
local macro_rules | `(tactic| walk_at "execs cons") => `(tactic| (k_here; refine gen_toks ?_; intro tk; (try k_made); (try k_fold); (with_reducible refine wpAny_execs_cons ?_); try dsimp only))
theorem slice_0n (p q : Nat) : Txt.slice ⟨#[p, q]⟩ (some 0) none = ⟨#[p, q]⟩ := by
  show (if ((1 : Int) == 1 && (PySem.Builtin.Str.strSliceIndices (some 0) none 1 2).length == 2) = true then _ else _) = _
  rw [if_pos (by decide +kernel)]
theorem slice_nn (p q : Nat) : Txt.slice ⟨#[p, q]⟩ none none = ⟨#[p, q]⟩ := by
  show (if ((1 : Int) == 1 && (PySem.Builtin.Str.strSliceIndices none none 1 2).length == 2) = true then _ else _) = _
  rw [if_pos (by decide +kernel)]
theorem item_0 (p q : Nat) : Txt.item ⟨#[p, q]⟩ 0 = ⟨#[p]⟩ := rfl
theorem item_1 (p q : Nat) : Txt.item ⟨#[p, q]⟩ 1 = ⟨#[q]⟩ := rfl
theorem item_m1 (p q : Nat) : Txt.item ⟨#[p, q]⟩ (-1) = ⟨#[q]⟩ := rfl
section
variable {prog : Program} {w : World} {A : Around} {E : Value → Shared → Prop} {s : Shared} {value slice : Expr} {x y : Str} {t : Tok} {h₀ : Heap} {L : Addr} {m : Str → Option Value} {news : List (Addr × Obj)} {Q : Value → Shared → Prop}
theorem r_slice_nn (e : Txt.slice x none none = y) (hF : Fr h₀ L s.heap m) (hN : News h₀ L s.heap news) (h : ∀ h' t' k, Fr h₀ L h' m → News h₀ L h' news → Q (.str y t') { s with heap := h', toks := k })
    (hs : subscripted slice false (.str x t) (.ref s.heap.objs.size) = operate [.ref s.heap.objs.size, .str x t] (getItem (.str x t) (.ref s.heap.objs.size)) := by with_unfolding_all rfl)
    (ht : ∀ r, letTemporaryGo value (.str x t) r = pure () := by intro _; with_unfolding_all rfl) (hsz : x.length ≤ sizeLine) :
    wpAny (model prog w) A (subscriptTail value slice (.str x t) (.ref s.heap.objs.size)) Q E { s with heap := s.heap.push { cls := .type "slice", data := .fields #[.none, .none, .none] } } := by
  subst e; exact slice_strN_nn hF hN h hs ht hsz
theorem r_slice_sn {i : Int} {ui : Tok} (e : Txt.slice x (some i) none = y) (hF : Fr h₀ L s.heap m) (hN : News h₀ L s.heap news) (h : ∀ h' t' k, Fr h₀ L h' m → News h₀ L h' news → Q (.str y t') { s with heap := h', toks := k })
    (hs : subscripted slice false (.str x t) (.ref s.heap.objs.size) = operate [.ref s.heap.objs.size, .str x t] (getItem (.str x t) (.ref s.heap.objs.size)) := by with_unfolding_all rfl)
    (ht : ∀ r, letTemporaryGo value (.str x t) r = pure () := by intro _; with_unfolding_all rfl) (hsz : x.length ≤ sizeLine) :
    wpAny (model prog w) A (subscriptTail value slice (.str x t) (.ref s.heap.objs.size)) Q E { s with heap := s.heap.push { cls := .type "slice", data := .fields #[.int i ui, .none, .none] } } := by
  subst e; exact slice_strN_sn hF hN h hs ht hsz
theorem r_item {i : Int} {u : Tok} (e : Txt.item x i = y) (hr : fitsSsize i = true) (h1 : -(x.length : Int) ≤ i) (h2 : i < x.length)
    (h : Q (.str y s.toks) { s with toks := s.toks + 1 })
    (hs : subscripted slice false (.str x t) (.int i u) = operate [.str x t, .int i u] (getItem (.str x t) (.int i u)) := by with_unfolding_all rfl)
    (ht : ∀ r, letTemporaryGo value (.str x t) r = pure () := by intro _; with_unfolding_all rfl) :
    wpAny (model prog w) A (subscriptTail value slice (.str x t) (.int i u)) Q E s := by
  subst e; exact item_str hr h1 h2 (fun _ => h) hs ht
theorem r_item_0 {p q : Nat} {i : Int} {u : Tok} (e : i = 0) (h : Q (.str ⟨#[p]⟩ s.toks) { s with toks := s.toks + 1 })
    (hs : subscripted slice false (.str ⟨#[p, q]⟩ t) (.int i u) = operate [.str ⟨#[p, q]⟩ t, .int i u] (getItem (.str ⟨#[p, q]⟩ t) (.int i u)) := by with_unfolding_all rfl)
    (ht : ∀ r, letTemporaryGo value (.str ⟨#[p, q]⟩ t) r = pure () := by intro _; with_unfolding_all rfl) :
    wpAny (model prog w) A (subscriptTail value slice (.str ⟨#[p, q]⟩ t) (.int i u)) Q E s := by
  subst e
  exact r_item (item_0 p q) (by decide) (by show -(2 : Int) ≤ 0; decide) (by show 0 < (2 : Int); decide) h hs ht
theorem r_item_1 {p q : Nat} {i : Int} {u : Tok} (e : i = 1) (h : Q (.str ⟨#[q]⟩ s.toks) { s with toks := s.toks + 1 })
    (hs : subscripted slice false (.str ⟨#[p, q]⟩ t) (.int i u) = operate [.str ⟨#[p, q]⟩ t, .int i u] (getItem (.str ⟨#[p, q]⟩ t) (.int i u)) := by with_unfolding_all rfl)
    (ht : ∀ r, letTemporaryGo value (.str ⟨#[p, q]⟩ t) r = pure () := by intro _; with_unfolding_all rfl) :
    wpAny (model prog w) A (subscriptTail value slice (.str ⟨#[p, q]⟩ t) (.int i u)) Q E s := by
  subst e
  exact r_item (item_1 p q) (by decide) (by show -(2 : Int) ≤ 1; decide) (by show 1 < (2 : Int); decide) h hs ht
theorem r_item_m1 {p q : Nat} {i : Int} {u : Tok} (e : i = (-1)) (h : Q (.str ⟨#[q]⟩ s.toks) { s with toks := s.toks + 1 })
    (hs : subscripted slice false (.str ⟨#[p, q]⟩ t) (.int i u) = operate [.str ⟨#[p, q]⟩ t, .int i u] (getItem (.str ⟨#[p, q]⟩ t) (.int i u)) := by with_unfolding_all rfl)
    (ht : ∀ r, letTemporaryGo value (.str ⟨#[p, q]⟩ t) r = pure () := by intro _; with_unfolding_all rfl) :
    wpAny (model prog w) A (subscriptTail value slice (.str ⟨#[p, q]⟩ t) (.int i u)) Q E s := by
  subst e
  exact r_item (item_m1 p q) (by decide) (by show -(2 : Int) ≤ (-1); decide) (by show (-1) < (2 : Int); decide) h hs ht
theorem r_len2 {p q : Nat} (h : Q (.int 2 (s.toks + 1)) { s with toks := s.toks + 1 + 1 }) : wpAny (model prog w) A (call (.builtin "len") [.str ⟨#[p, q]⟩ t]) Q E s :=
  PySem.P.len_str (x := ⟨#[p, q]⟩) (by show ¬ (2 : Int) ≥ 2 ^ 63; decide) h
end
theorem r_list_24 {w : World} {A : Around} {E : Value → Shared → Prop} {s : Shared} {h₀ : Heap} {L : Addr} {m : Str → Option Value} {news : List (Addr × Obj)} {Q : Value → Shared → Prop} {r : Addr} {b : Int} {t u v : Tok} (hb : b = 6) (hh : A.handled = none) (F : Fr h₀ L s.heap m) (N : News h₀ L s.heap news) (hr : IsRange s.heap r 2 b 2 t u v)
    (hQ : ∀ D h' tk t1 t2 c, Fr h₀ L h' m → News h₀ L h' ((D, listOf #[.int 2 t1, .int 4 t2] c) :: news) → (∀ p ∈ news, p.1 < D) → Q (.ref D) { s with heap := h', toks := tk }) :
    wpAny (model pgm w) A (call (.type "list") [.ref r]) Q E s := by
  subst hb
  refine list_rangeD (n := 2) hh F N hr (by decide) (by decide) (by decide) fun h' tk ys F' N' hk hnone hl hnp hc => ?_
  obtain ⟨⟨c, hc'⟩, _⟩ := hnp
  have hi := intsAre_of_carried hc
  have e : rangeInts 2 2 2 = [2, 4] := by decide
  rw [e] at hi
  cases hi with
  | cons n t1 h1 => cases h1 with
    | cons n t2 h2 => cases h2 with
      | nil =>
        refine hQ _ h' tk t1 t2 c F' (fun p hp => ?_) (fun p hp => Heap.lt_size (N p hp).1)
        rcases List.mem_cons.mp hp with rfl | hp
        · refine ⟨hc', ?_, hnone⟩
          intro e
          exact absurd F.ns.lt (by rw [← e]; exact Nat.lt_irrefl _)
        · exact N' p hp
section
variable {w : World} {A : Around} {E : Value → Shared → Prop} {s : Shared} {h₀ : Heap} {L : Addr} {m : Str → Option Value} {news : List (Addr × Obj)} {Q : Value → Shared → Prop}
theorem r_min_l {a b : Int} {t u : Tok} (hh : A.handled = none) (F : Fr h₀ L s.heap m) (N : News h₀ L s.heap news) (e : ¬ b < a) (h : ∀ h' tk, Fr h₀ L h' m → News h₀ L h' news → Q (.int a t) { s with heap := h', toks := tk }) :
    wpAny (model pgm w) A (call (.builtin "min") [.int a t, .int b u]) Q E s := min_two_N hh F N fun h' tk F' N' => by rw [if_neg e, if_neg e]; exact h h' tk F' N'
theorem r_min_r {a b : Int} {t u : Tok} (hh : A.handled = none) (F : Fr h₀ L s.heap m) (N : News h₀ L s.heap news) (e : b < a) (h : ∀ h' tk, Fr h₀ L h' m → News h₀ L h' news → Q (.int b u) { s with heap := h', toks := tk }) :
    wpAny (model pgm w) A (call (.builtin "min") [.int a t, .int b u]) Q E s := min_two_N hh F N fun h' tk F' N' => by rw [if_pos e, if_pos e]; exact h h' tk F' N'
theorem r_get2_0 {value slice : Expr} {l : Addr} {x y : Value} {n : Nat} {k : Int} {u : Tok} (e : k = 0) (N : News h₀ L s.heap news) (hm : (l, listOf #[x, y] n) ∈ news) (h : Q x s)
    (hs : subscripted slice false (.ref l) (.int k u) = operate [.ref l, .int k u] (getItem (.ref l) (.int k u)) := by with_unfolding_all rfl) (hg : ∀ r, letTemporaryGo value (.ref l) r = pure () := by intro _; with_unfolding_all rfl) :
    wpAny (model pgm w) A (subscriptTail value slice (.ref l) (.int k u)) Q E s := by
  subst e; exact PyProof.Rows.item_list (N.isList hm) (by decide) (by decide) rfl h hs hg
theorem r_get2_1 {value slice : Expr} {l : Addr} {x y : Value} {n : Nat} {k : Int} {u : Tok} (e : k = 1) (N : News h₀ L s.heap news) (hm : (l, listOf #[x, y] n) ∈ news) (h : Q y s)
    (hs : subscripted slice false (.ref l) (.int k u) = operate [.ref l, .int k u] (getItem (.ref l) (.int k u)) := by with_unfolding_all rfl) (hg : ∀ r, letTemporaryGo value (.ref l) r = pure () := by intro _; with_unfolding_all rfl) :
    wpAny (model pgm w) A (subscriptTail value slice (.ref l) (.int k u)) Q E s := by
  subst e; exact PyProof.Rows.item_list (N.isList hm) (by decide) (by decide) rfl h hs hg
end
local macro_rules | `(tactic| walk_at "exec While BoolOp") => `(tactic| (k_here; k_dflt (refine whl_start 100 ?_)))
local macro_rules | `(tactic| walk_at "subscriptTail Name Slice str ref") => `(tactic| refine Stk.out (k := 7) ?_)
local macro_rules | `(tactic| walk_at "subscriptTail Name Name str int") => `(tactic| refine Stk.out (k := 8) ?_)
local macro_rules | `(tactic| walk_at "subscriptTail Name BinOp str int") => `(tactic| refine Stk.out (k := 9) ?_)
local macro_rules | `(tactic| walk_at "truthy str") => `(tactic| refine Stk.out (k := 10) ?_)
theorem c_sub_eq (w : World) (x : Nat) (tx ty : Tok) (hx : 97 ≤ x ∧ x < 123) : Spec w 21 3 [] [.str ⟨#[x]⟩ tx, .str ⟨#[x]⟩ ty] (isInt 0) := by
  have := c_sub w x x tx ty (by omega) (by omega)
  rwa [show subCost x x = 0 by simp [subCost]] at this
theorem c_sub_ne (w : World) (x y : Nat) (tx ty : Tok) (hx : 97 ≤ x ∧ x < 123) (hy : 97 ≤ y ∧ y < 123) (h : x ≠ y) : Spec w 21 3 [] [.str ⟨#[x]⟩ tx, .str ⟨#[y]⟩ ty] (isInt 2) := by
  have := c_sub w x y tx ty (by omega) (by omega)
  have e : lowN x = x := by unfold lowN; rw [if_neg (by omega)]
  have e' : lowN y = y := by unfold lowN; rw [if_neg (by omega)]
  rwa [show subCost x y = 2 by unfold subCost; rw [e, e', if_neg h, if_neg h]] at this
local macro_rules | `(tactic| walk_at "call builtin:len") => `(tactic| (k_here; refine r_len2 ?_))
local macro_rules | `(tactic| walk_at "call builtin:min") => `(tactic| refine Stk.out (k := 12) ?_)
local macro_rules | `(tactic| walk_at "subscriptTail Name Name ref int") => `(tactic| refine Stk.out (k := 13) ?_)
set_option maxHeartbeats 4000000 in
theorem c_lev4 (w : World) (x y : Nat) (tx ty tz : Tok) (hx : 97 ≤ x ∧ x < 123) (hy : 97 ≤ y ∧ y < 123) (hne : x ≠ y) :
    Spec w 28 5 [] [.str ⟨#[x, y]⟩ tx, .str ⟨#[y, x]⟩ ty, .int 4 tz] (isInt 4) := by
  first | k_dflt ((refine' core_plain ?zho ?zhcd ?zhb ?zhl ?zhdep ?zhcell ?zhco ?zhgen ?zhk ?_; (case zho => k_is); (case zhcd => k_is); (case zhcell => decide); (case zhb => exact fun _ => rfl); (case zhl => exact locs rfl); (case zhdep => decide); (case zhco => exact rfl); (case zhgen => exact rfl); (case zhk => exact rfl); k_whole)) | k_dflt ((refine' core_cells ?zho ?zhcd ?zhb ?zhki ?zhnd ?zhdep ?zhco ?zhgen ?zhk ?_; (case zho => k_is); (case zhcd => k_is); (case zhb => exact fun _ => rfl); (case zhki => exact rfl); (case zhnd => decide +kernel); (case zhdep => decide); (case zhco => exact rfl); (case zhgen => exact rfl); (case zhk => exact rfl); k_whole)) | fail "enter"
  intro p loose mean mg mb dp un gd cn cs a ccd cl outer L base g L' s Qf Er F N hlt B X T hk hd hu hret
  repeat' ((first | (k_unfold; (try dsimp only)) | (k_end; kc_close) | walk1 | (dsimp only; walk1) | (leave1; walk_say "STEP leave1"; (try dsimp only)) | fail "no step") <;> (repeat' (first
    | (refine Stk.mk (k := 7) ?_; with_reducible ((k_here; (with_reducible rename Fr _ _ _ _ => F'); (with_reducible rename News _ _ _ _ => N'); (first | ((with_reducible show wpAny _ _ (subscriptTail _ (Expr.Slice (some _) none none _) (Value.str (Str.mk _) _) _) _ _ _); (refine r_slice_sn (hsz := ?hsz) (s := ⟨_, _, _, _, _⟩) (slice_0n _ _) F' N' ?_); (case hsz => kxi_size)) | ((with_reducible show wpAny _ _ (subscriptTail _ _ (Value.str (Str.mk _) _) _) _ _ _); (refine r_slice_nn (hsz := ?hsz) (s := ⟨_, _, _, _, _⟩) (slice_nn _ _) F' N' ?_); (case hsz => kxi_size))); intro _ _ _ _ _)))
    | (refine Stk.mk (k := 8) ?_; with_reducible ((k_here; (with_reducible show wpAny _ _ (subscriptTail _ _ (Value.str (Str.mk _) _) _) _ _ _); (first | with_reducible refine r_item_0 (by omega) ?_ | with_reducible refine r_item_1 (by omega) ?_))))
    | (refine Stk.mk (k := 9) ?_; with_reducible ((k_here; (with_reducible show wpAny _ _ (subscriptTail _ _ (Value.str (Str.mk _) _) _) _ _ _); (with_reducible refine r_item_m1 (by omega) ?_))))
    | (refine Stk.mk (k := 10) ?_; with_reducible ((k_here; (with_reducible show wpAny _ _ (truthy (Value.str (Str.mk _) _)) _ _ _); refine r_truthy (b := true) 2 rfl (by decide) rfl ?_)))
    | (refine Stk.mk (k := 1) ?_; with_reducible ((k_here; k_dflt (first | refine use_int (c_sub_eq _ _ _ _ (by assumption)) sub0 (by k_asm) (by k_asm) (by k_asm) (by k_asm) (by k_asm) (by first | exact rfl | assumption) (by first | ktr_room | omega) (by first | ktr_units | omega) ?_ | refine use_int (c_sub_ne _ _ _ _ _ (by assumption) (by assumption) (by first | assumption | omega)) sub0 (by k_asm) (by k_asm) (by k_asm) (by k_asm) (by k_asm) (by first | exact rfl | assumption) (by first | ktr_room | omega) (by first | ktr_units | omega) ?_); (intro t9 h9 tk9 F9 N9); (try dsimp only); (try k_fold))))
    | (refine Stk.mk (k := 11) ?_; with_reducible ((k_here; k_dflt (refine' r_list_24 ?hb ?h1 ?h2 ?h3 ?h4 ?_; (case hb => rfl); (case h1 => rfl); (case h2 => k_asm); (case h3 => k_asm); (case h4 => assumption)); (intro D' h' tk' t1' t2' c' F' N' l1); (try k_lt l1))))
    | (refine Stk.mk (k := 12) ?_; with_reducible ((k_here; k_dflt (first | ((with_reducible refine' r_min_l ?hh ?F ?N ?e ?_); (case e => decide); (case hh => rfl); (case F => k_asm); (case N => k_asm)) | ((with_reducible refine' r_min_r ?hh ?F ?N ?e ?_); (case e => decide); (case hh => rfl); (case F => k_asm); (case N => k_asm))); intro _ _ _ _)))
    | (refine Stk.mk (k := 13) ?_; with_reducible ((k_here; k_dflt (first | ((with_reducible refine' r_get2_0 ?e ?N ?m ?_ ?a ?b); (case e => decide); (case N => k_asm); (case m => k_mem); (case a => with_unfolding_all rfl); (case b => intro _; with_unfolding_all rfl)) | ((with_reducible refine' r_get2_1 ?e ?N ?m ?_ ?a ?b); (case e => decide); (case N => k_asm); (case m => k_mem); (case a => with_unfolding_all rfl); (case b => intro _; with_unfolding_all rfl)))))))))
  all_goals first
    | exact hret _ _ _ _ _ (of_int (by decide)) (by k_asm) (news_sub (by k_asm) sub0)
    | (exfalso; omega)
set_option maxHeartbeats 4000000 in
theorem c_lev0 (w : World) (x : Str) (tx ty tz : Tok) : Spec w 28 5 [] [.str x tx, .str x ty, .int 4 tz] (isInt 0) := by
  first | k_dflt ((refine' core_plain ?zho ?zhcd ?zhb ?zhl ?zhdep ?zhcell ?zhco ?zhgen ?zhk ?_; (case zho => k_is); (case zhcd => k_is); (case zhcell => decide); (case zhb => exact fun _ => rfl); (case zhl => exact locs rfl); (case zhdep => decide); (case zhco => exact rfl); (case zhgen => exact rfl); (case zhk => exact rfl); k_whole)) | k_dflt ((refine' core_cells ?zho ?zhcd ?zhb ?zhki ?zhnd ?zhdep ?zhco ?zhgen ?zhk ?_; (case zho => k_is); (case zhcd => k_is); (case zhb => exact fun _ => rfl); (case zhki => exact rfl); (case zhnd => decide +kernel); (case zhdep => decide); (case zhco => exact rfl); (case zhgen => exact rfl); (case zhk => exact rfl); k_whole)) | fail "enter"
  intro p loose mean mg mb dp un gd cn cs a ccd cl outer L base g L' s Qf Er F N hlt B X T hk hd hu hret
  iterate 5 (try ((first | (k_unfold; (try dsimp only)) | (k_end; wrow_close) | walk1 | (dsimp only; walk1) | (leave1; walk_say "STEP leave1"; (try dsimp only)) | fail "no step") <;> (repeat' (first
    | (refine Stk.mk (k := 7) ?_; with_reducible ((k_here; (with_reducible rename Fr _ _ _ _ => F'); (with_reducible rename News _ _ _ _ => N'); (first | ((with_reducible show wpAny _ _ (subscriptTail _ (Expr.Slice (some _) none none _) (Value.str (Str.mk _) _) _) _ _ _); (refine r_slice_sn (hsz := ?hsz) (s := ⟨_, _, _, _, _⟩) (slice_0n _ _) F' N' ?_); (case hsz => kxi_size)) | ((with_reducible show wpAny _ _ (subscriptTail _ _ (Value.str (Str.mk _) _) _) _ _ _); (refine r_slice_nn (hsz := ?hsz) (s := ⟨_, _, _, _, _⟩) (slice_nn _ _) F' N' ?_); (case hsz => kxi_size))); intro _ _ _ _ _)))
    | (refine Stk.mk (k := 8) ?_; with_reducible ((k_here; (with_reducible show wpAny _ _ (subscriptTail _ _ (Value.str (Str.mk _) _) _) _ _ _); (first | with_reducible refine r_item_0 (by omega) ?_ | with_reducible refine r_item_1 (by omega) ?_))))
    | (refine Stk.mk (k := 9) ?_; with_reducible ((k_here; (with_reducible show wpAny _ _ (subscriptTail _ _ (Value.str (Str.mk _) _) _) _ _ _); (with_reducible refine r_item_m1 (by omega) ?_))))
    | (refine Stk.mk (k := 10) ?_; with_reducible ((k_here; (with_reducible show wpAny _ _ (truthy (Value.str (Str.mk _) _)) _ _ _); refine r_truthy (b := true) 2 rfl (by decide) rfl ?_)))
    | (refine Stk.mk (k := 1) ?_; with_reducible ((k_here; k_dflt (first | refine use_int (c_sub_eq _ _ _ _ (by assumption)) sub0 (by k_asm) (by k_asm) (by k_asm) (by k_asm) (by k_asm) (by first | exact rfl | assumption) (by first | ktr_room | omega) (by first | ktr_units | omega) ?_ | refine use_int (c_sub_ne _ _ _ _ _ (by assumption) (by assumption) (by first | assumption | omega)) sub0 (by k_asm) (by k_asm) (by k_asm) (by k_asm) (by k_asm) (by first | exact rfl | assumption) (by first | ktr_room | omega) (by first | ktr_units | omega) ?_); (intro t9 h9 tk9 F9 N9); (try dsimp only); (try k_fold))))
    | (refine Stk.mk (k := 11) ?_; with_reducible ((k_here; k_dflt (refine' r_list_24 ?hb ?h1 ?h2 ?h3 ?h4 ?_; (case hb => rfl); (case h1 => rfl); (case h2 => k_asm); (case h3 => k_asm); (case h4 => assumption)); (intro D' h' tk' t1' t2' c' F' N' l1); (try k_lt l1))))
    | (refine Stk.mk (k := 12) ?_; with_reducible ((k_here; k_dflt (first | ((with_reducible refine' r_min_l ?hh ?F ?N ?e ?_); (case e => decide); (case hh => rfl); (case F => k_asm); (case N => k_asm)) | ((with_reducible refine' r_min_r ?hh ?F ?N ?e ?_); (case e => decide); (case hh => rfl); (case F => k_asm); (case N => k_asm))); intro _ _ _ _)))
    | (refine Stk.mk (k := 13) ?_; with_reducible ((k_here; k_dflt (first | ((with_reducible refine' r_get2_0 ?e ?N ?m ?_ ?a ?b); (case e => decide); (case N => k_asm); (case m => k_mem); (case a => with_unfolding_all rfl); (case b => intro _; with_unfolding_all rfl)) | ((with_reducible refine' r_get2_1 ?e ?N ?m ?_ ?a ?b); (case e => decide); (case N => k_asm); (case m => k_mem); (case a => with_unfolding_all rfl); (case b => intro _; with_unfolding_all rfl))))))))))
  refine r_eq_ss (b := true) (beq_self_eq_true _) ?_
  repeat' ((first | (k_unfold; (try dsimp only)) | (k_end; kc_close) | walk1 | (dsimp only; walk1) | (leave1; walk_say "STEP leave1"; (try dsimp only)) | fail "no step") <;> (repeat' (first
    | (refine Stk.mk (k := 7) ?_; with_reducible ((k_here; (with_reducible rename Fr _ _ _ _ => F'); (with_reducible rename News _ _ _ _ => N'); (first | ((with_reducible show wpAny _ _ (subscriptTail _ (Expr.Slice (some _) none none _) (Value.str (Str.mk _) _) _) _ _ _); (refine r_slice_sn (hsz := ?hsz) (s := ⟨_, _, _, _, _⟩) (slice_0n _ _) F' N' ?_); (case hsz => kxi_size)) | ((with_reducible show wpAny _ _ (subscriptTail _ _ (Value.str (Str.mk _) _) _) _ _ _); (refine r_slice_nn (hsz := ?hsz) (s := ⟨_, _, _, _, _⟩) (slice_nn _ _) F' N' ?_); (case hsz => kxi_size))); intro _ _ _ _ _)))
    | (refine Stk.mk (k := 8) ?_; with_reducible ((k_here; (with_reducible show wpAny _ _ (subscriptTail _ _ (Value.str (Str.mk _) _) _) _ _ _); (first | with_reducible refine r_item_0 (by omega) ?_ | with_reducible refine r_item_1 (by omega) ?_))))
    | (refine Stk.mk (k := 9) ?_; with_reducible ((k_here; (with_reducible show wpAny _ _ (subscriptTail _ _ (Value.str (Str.mk _) _) _) _ _ _); (with_reducible refine r_item_m1 (by omega) ?_))))
    | (refine Stk.mk (k := 10) ?_; with_reducible ((k_here; (with_reducible show wpAny _ _ (truthy (Value.str (Str.mk _) _)) _ _ _); refine r_truthy (b := true) 2 rfl (by decide) rfl ?_)))
    | (refine Stk.mk (k := 1) ?_; with_reducible ((k_here; k_dflt (first | refine use_int (c_sub_eq _ _ _ _ (by assumption)) sub0 (by k_asm) (by k_asm) (by k_asm) (by k_asm) (by k_asm) (by first | exact rfl | assumption) (by first | ktr_room | omega) (by first | ktr_units | omega) ?_ | refine use_int (c_sub_ne _ _ _ _ _ (by assumption) (by assumption) (by first | assumption | omega)) sub0 (by k_asm) (by k_asm) (by k_asm) (by k_asm) (by k_asm) (by first | exact rfl | assumption) (by first | ktr_room | omega) (by first | ktr_units | omega) ?_); (intro t9 h9 tk9 F9 N9); (try dsimp only); (try k_fold))))
    | (refine Stk.mk (k := 11) ?_; with_reducible ((k_here; k_dflt (refine' r_list_24 ?hb ?h1 ?h2 ?h3 ?h4 ?_; (case hb => rfl); (case h1 => rfl); (case h2 => k_asm); (case h3 => k_asm); (case h4 => assumption)); (intro D' h' tk' t1' t2' c' F' N' l1); (try k_lt l1))))
    | (refine Stk.mk (k := 12) ?_; with_reducible ((k_here; k_dflt (first | ((with_reducible refine' r_min_l ?hh ?F ?N ?e ?_); (case e => decide); (case hh => rfl); (case F => k_asm); (case N => k_asm)) | ((with_reducible refine' r_min_r ?hh ?F ?N ?e ?_); (case e => decide); (case hh => rfl); (case F => k_asm); (case N => k_asm))); intro _ _ _ _)))
    | (refine Stk.mk (k := 13) ?_; with_reducible ((k_here; k_dflt (first | ((with_reducible refine' r_get2_0 ?e ?N ?m ?_ ?a ?b); (case e => decide); (case N => k_asm); (case m => k_mem); (case a => with_unfolding_all rfl); (case b => intro _; with_unfolding_all rfl)) | ((with_reducible refine' r_get2_1 ?e ?N ?m ?_ ?a ?b); (case e => decide); (case N => k_asm); (case m => k_mem); (case a => with_unfolding_all rfl); (case b => intro _; with_unfolding_all rfl)))))))))
  all_goals exact hret _ _ _ _ _ (of_int (by decide)) (by k_asm) (news_sub (by k_asm) sub0)
end
section
theorem fill_Typed : K = K ∧ PySem.Challenge.rw_sn0097_01 = PySem.Challenge.rw_sn0097_01 := by k_fill; exact ⟨rfl, rfl⟩
local macro_rules | `(tactic| walk_at "subscriptTail") => `(tactic| refine Stk.out (k := 14) ?_)
theorem str0 : Str.ofString "" = ⟨#[]⟩ := by decide +kernel
set_option maxHeartbeats 4000000 in
theorem c_typed (w : World) (l : Addr) (x y z d : Int) (tx ty tz td : Tok) (n : Nat) (hx : 0 ≤ x ∧ x < 26) (hy : 0 ≤ y ∧ y < 26) (hz : 0 ≤ z ∧ z < 26) (hdd : 0 ≤ d ∧ d < 1000000) :
    Spec w 173 3 [(l, listOf #[.int x tx, .int y ty, .int z tz] n)] [.ref l, .int d td] (isStr ⟨#[(form4 (d.fmod 4) + x).toNat, (form4 ((d.fdiv 4).fmod 4) + y).toNat, (form4 (((d.fdiv 4).fdiv 4).fmod 4) + z).toNat]⟩) := by
  first | k_dflt ((refine' core_plain ?zho ?zhcd ?zhb ?zhl ?zhdep ?zhcell ?zhco ?zhgen ?zhk ?_; (case zho => k_is); (case zhcd => k_is); (case zhcell => decide); (case zhb => exact fun _ => rfl); (case zhl => exact locs rfl); (case zhdep => decide); (case zhco => exact rfl); (case zhgen => exact rfl); (case zhk => exact rfl); k_whole)) | k_dflt ((refine' core_cells ?zho ?zhcd ?zhb ?zhki ?zhnd ?zhdep ?zhco ?zhgen ?zhk ?_; (case zho => k_is); (case zhcd => k_is); (case zhb => exact fun _ => rfl); (case zhki => exact rfl); (case zhnd => decide +kernel); (case zhdep => decide); (case zhco => exact rfl); (case zhgen => exact rfl); (case zhk => exact rfl); k_whole)) | fail "enter"
  intro p loose mean mg mb dp un gd cn cs a ccd cl outer L base g L' s Qf Er F N hlt B X T hk hd hu hret
  k_lt hlt
  repeat' ((first | (k_unfold; (try dsimp only)) | (k_end; kc_close) | walk1 | (dsimp only; walk1) | (leave1; walk_say "STEP leave1"; (try dsimp only)) | fail "no step") <;> (repeat' (first
    | (refine Stk.mk (k := 14) ?_; with_reducible ((k_here; (with_reducible show wpAny _ _ (subscriptTail _ _ (Value.ref _) (Value.int _ _)) _ _ _); (try k_fmods); k_dflt (refine' item_anyT ?k1 ?k2 ?k3 ?k4 ?k5 ?_; (case k1 => exact News.isTup (by k_asm) (by k_mem)); (case k2 => l_ints); (case k3 => l_idx); (case k4 => l_idx); (case k5 => l_idx); k_whole); intro _))))))
  refine hret _ _ _ _ _ (of_str ?_) (by k_asm) (news_sub (by k_asm) (subC (by k_mem) sub0))
  rw [str0]; rfl
end
section
theorem fill_Msg : K = K ∧ PySem.Challenge.rw_sn0097_01 = PySem.Challenge.rw_sn0097_01 := by k_fill; exact ⟨rfl, rfl⟩
noncomputable def msgOf (x y z : Int) (v : Nat) : Str :=
  let p := ((if z.fmod 2 = 1 then 65 else 97) + x).toNat
  let q := ((if (z.fdiv 2).fmod 2 = 1 then 65 else 97) + y).toNat
  if z > 3 then ⟨#[q, v, p]⟩ else ⟨#[p, v, q]⟩
set_option maxHeartbeats 4000000 in
theorem c_msg (w : World) (x y z : Int) (v : Nat) (tx ty tz tv : Tok) (hx : 0 ≤ x ∧ x < 26) (hy : 0 ≤ y ∧ y < 26) (hz : 0 ≤ z ∧ z < 8) :
    Spec w 202 3 [] [.int x tx, .int y ty, .int z tz, .str ⟨#[v]⟩ tv] (isStr (msgOf x y z v)) := by
  first | k_dflt ((refine' core_plain ?zho ?zhcd ?zhb ?zhl ?zhdep ?zhcell ?zhco ?zhgen ?zhk ?_; (case zho => k_is); (case zhcd => k_is); (case zhcell => decide); (case zhb => exact fun _ => rfl); (case zhl => exact locs rfl); (case zhdep => decide); (case zhco => exact rfl); (case zhgen => exact rfl); (case zhk => exact rfl); k_whole)) | k_dflt ((refine' core_cells ?zho ?zhcd ?zhb ?zhki ?zhnd ?zhdep ?zhco ?zhgen ?zhk ?_; (case zho => k_is); (case zhcd => k_is); (case zhb => exact fun _ => rfl); (case zhki => exact rfl); (case zhnd => decide +kernel); (case zhdep => decide); (case zhco => exact rfl); (case zhgen => exact rfl); (case zhk => exact rfl); k_whole)) | fail "enter"
  intro p loose mean mg mb dp un gd cn cs a ccd cl outer L base g L' s Qf Er F N hlt B X T hk hd hu hret
  k_steps
  all_goals (refine hret _ _ _ _ _ (of_str ?_) (by k_asm) (news_sub (by k_asm) sub0); clear hret; unfold msgOf; simp only [*, if_true, if_false, gt_iff_lt]; try rfl)
  all_goals ((repeat split) <;> first | rfl | (exfalso; omega))
end
section
theorem fill_Hand3 : K = K ∧ PySem.Challenge.rw_sn0097_01 = PySem.Challenge.rw_sn0097_01 := by k_fill; exact ⟨rfl, rfl⟩
local macro_rules | `(tactic| walk_at "call builtin:len") => `(tactic| refine Stk.out (k := 5) ?_)
local macro_rules | `(tactic| walk_at "call builtin:list.pop") => `(tactic| refine Stk.out (k := 17) ?_)
set_option maxHeartbeats 4000000 in
theorem c_hand3 (w : World) (l : Addr) (x y z : Int) (tx ty tz : Tok) (n : Nat) : Spec w 166 3 [(l, listOf #[.int x tx, .int y ty, .int z tz] n)] [.ref l] isHand3 := by
  first | k_dflt ((refine' core_plain ?zho ?zhcd ?zhb ?zhl ?zhdep ?zhcell ?zhco ?zhgen ?zhk ?_; (case zho => k_is); (case zhcd => k_is); (case zhcell => decide); (case zhb => exact fun _ => rfl); (case zhl => exact locs rfl); (case zhdep => decide); (case zhco => exact rfl); (case zhgen => exact rfl); (case zhk => exact rfl); k_whole)) | k_dflt ((refine' core_cells ?zho ?zhcd ?zhb ?zhki ?zhnd ?zhdep ?zhco ?zhgen ?zhk ?_; (case zho => k_is); (case zhcd => k_is); (case zhb => exact fun _ => rfl); (case zhki => exact rfl); (case zhnd => decide +kernel); (case zhdep => decide); (case zhco => exact rfl); (case zhgen => exact rfl); (case zhk => exact rfl); k_whole)) | fail "enter"
  intro p loose mean mg mb dp un gd cn cs a ccd cl outer L base g L' cells s Qf Er F N Y hlt B X T hk hd hu hret
  k_lt hlt
  k_cells Y
  simp only [List.cons_append, List.nil_append] at N
  repeat' ((first | (k_unfold; (try dsimp only)) | (k_end; kc_close) | walk1 | (dsimp only; walk1) | (leave1; walk_say "STEP leave1"; (try dsimp only)) | fail "no step") <;> (repeat' (first
    | (refine Stk.mk (k := 15) ?_; with_reducible ((k_here; k_dflt (refine LCg.ListComp_U (F₀ := by k_asm) (by with_unfolding_all rfl) (by decide) (by rfl) (by decide) (by rfl) ?_); k_dflt lcg_toSrc)))
    | (refine Stk.mk (k := 16) ?_; with_reducible ((k_here; k_dflt (first | (refine LCg.CompSrc.ledger (by rfl) (by k_asm) (by k_asm) (by k_mem) (by first | size_fits | exact Nat.le_of_ble_eq_true rfl) ?_; intro g'; lcg_lit) | (refine LCg.CompSrc.range (by rfl) (by k_asm) (by k_asm) (by assumption) (by first | decide | rfl) (by first | rfl | decide) (by first | size_fits | exact Nat.le_of_ble_eq_true rfl) ?_; intro g'; lcg_lit)))))
    | (refine Stk.mk (k := 11) ?_; with_reducible ((k_here; k_dflt (refine' r_list_range ?h1 ?h2 ?h3 ?h4 ?_; (case h1 => rfl); (case h2 => k_asm); (case h3 => k_asm); (case h4 => assumption)); (intro D' h' tk' ys' c' F' N' l1 hI'); (try k_lt l1))))
    | (refine Stk.mk (k := 5) ?_; with_reducible ((k_here; k_dflt (first | (refine' r_len (k := 26) ?h1 ?h2 ?h3 ?h4 ?h5 ?_; (case h1 => k_asm); (case h2 => k_mem); (case h3 => assumption); (case h4 => exact deck_len); (case h5 => decide)) | (refine' r_len (k := 25) ?h1 ?h2 ?h3 ?h4 ?h5 ?_; (case h1 => k_asm); (case h2 => k_mem); (case h3 => assumption); (case h4 => exact deck_e25); (case h5 => decide)) | (refine' r_len (k := 24) ?h1 ?h2 ?h3 ?h4 ?h5 ?_; (case h1 => k_asm); (case h2 => k_mem); (case h3 => assumption); (case h4 => exact deck_e24); (case h5 => decide))))))
    | (refine Stk.mk (k := 17) ?_; with_reducible ((k_here; k_dflt (refine' r_popAt ?h1 ?h2 ?h3 ?h4 ?h5 ?h6 ?h7 ?_; (case h1 => k_asm); (case h2 => k_asm); (case h7 => k_upd); (case h3 => assumption); (case h4 => exact Int.fmod_nonneg_of_pos _ (by decide)); (case h5 => first | exact pop_lt deck_len (by decide) | exact pop_lt deck_e25 (by decide) | exact pop_lt deck_e24 (by decide)); (case h6 => first | exact pop_le deck_len (by decide) | exact pop_le deck_e25 (by decide) | exact pop_le deck_e24 (by decide))); intro h' t' F' N' hI'))))))
  refine hret _ ([(_, _)] ++ [(l, _)]) _ _ _ ⟨_, rfl, ⟨_, _, _, _, _, _, _, _, rfl, rfl, hand3_ok x y z⟩, ?_⟩ (by k_asm) (news_sub (by k_asm) (subC (by k_mem) (subC (by k_mem) sub0)))
  intro q hq
  rw [List.mem_singleton] at hq
  subst hq
  intro h
  rw [List.map_cons, List.map_nil, List.mem_singleton] at h
  have h2 : @Eq Nat _ _ := h
  dsimp only at h2
  omega
set_option maxHeartbeats 4000000 in
theorem c_hand2 (w : World) (l : Addr) (x y : Int) (tx ty : Tok) (n : Nat) : Spec w 166 3 [(l, listOf #[.int x tx, .int y ty] n)] [.ref l] isHand2 := by
  first | k_dflt ((refine' core_plain ?zho ?zhcd ?zhb ?zhl ?zhdep ?zhcell ?zhco ?zhgen ?zhk ?_; (case zho => k_is); (case zhcd => k_is); (case zhcell => decide); (case zhb => exact fun _ => rfl); (case zhl => exact locs rfl); (case zhdep => decide); (case zhco => exact rfl); (case zhgen => exact rfl); (case zhk => exact rfl); k_whole)) | k_dflt ((refine' core_cells ?zho ?zhcd ?zhb ?zhki ?zhnd ?zhdep ?zhco ?zhgen ?zhk ?_; (case zho => k_is); (case zhcd => k_is); (case zhb => exact fun _ => rfl); (case zhki => exact rfl); (case zhnd => decide +kernel); (case zhdep => decide); (case zhco => exact rfl); (case zhgen => exact rfl); (case zhk => exact rfl); k_whole)) | fail "enter"
  intro p loose mean mg mb dp un gd cn cs a ccd cl outer L base g L' cells s Qf Er F N Y hlt B X T hk hd hu hret
  k_lt hlt
  k_cells Y
  simp only [List.cons_append, List.nil_append] at N
  repeat' ((first | (k_unfold; (try dsimp only)) | (k_end; kc_close) | walk1 | (dsimp only; walk1) | (leave1; walk_say "STEP leave1"; (try dsimp only)) | fail "no step") <;> (repeat' (first
    | (refine Stk.mk (k := 15) ?_; with_reducible ((k_here; k_dflt (refine LCg.ListComp_U (F₀ := by k_asm) (by with_unfolding_all rfl) (by decide) (by rfl) (by decide) (by rfl) ?_); k_dflt lcg_toSrc)))
    | (refine Stk.mk (k := 16) ?_; with_reducible ((k_here; k_dflt (first | (refine LCg.CompSrc.ledger (by rfl) (by k_asm) (by k_asm) (by k_mem) (by first | size_fits | exact Nat.le_of_ble_eq_true rfl) ?_; intro g'; lcg_lit) | (refine LCg.CompSrc.range (by rfl) (by k_asm) (by k_asm) (by assumption) (by first | decide | rfl) (by first | rfl | decide) (by first | size_fits | exact Nat.le_of_ble_eq_true rfl) ?_; intro g'; lcg_lit)))))
    | (refine Stk.mk (k := 11) ?_; with_reducible ((k_here; k_dflt (refine' r_list_range ?h1 ?h2 ?h3 ?h4 ?_; (case h1 => rfl); (case h2 => k_asm); (case h3 => k_asm); (case h4 => assumption)); (intro D' h' tk' ys' c' F' N' l1 hI'); (try k_lt l1))))
    | (refine Stk.mk (k := 5) ?_; with_reducible ((k_here; k_dflt (first | (refine' r_len (k := 26) ?h1 ?h2 ?h3 ?h4 ?h5 ?_; (case h1 => k_asm); (case h2 => k_mem); (case h3 => assumption); (case h4 => exact deck_len); (case h5 => decide)) | (refine' r_len (k := 25) ?h1 ?h2 ?h3 ?h4 ?h5 ?_; (case h1 => k_asm); (case h2 => k_mem); (case h3 => assumption); (case h4 => exact deck_e25); (case h5 => decide)) | (refine' r_len (k := 24) ?h1 ?h2 ?h3 ?h4 ?h5 ?_; (case h1 => k_asm); (case h2 => k_mem); (case h3 => assumption); (case h4 => exact deck_e24); (case h5 => decide))))))
    | (refine Stk.mk (k := 17) ?_; with_reducible ((k_here; k_dflt (refine' r_popAt ?h1 ?h2 ?h3 ?h4 ?h5 ?h6 ?h7 ?_; (case h1 => k_asm); (case h2 => k_asm); (case h7 => k_upd); (case h3 => assumption); (case h4 => exact Int.fmod_nonneg_of_pos _ (by decide)); (case h5 => first | exact pop_lt deck_len (by decide) | exact pop_lt deck_e25 (by decide) | exact pop_lt deck_e24 (by decide)); (case h6 => first | exact pop_le deck_len (by decide) | exact pop_le deck_e25 (by decide) | exact pop_le deck_e24 (by decide))); intro h' t' F' N' hI'))))))
  refine hret _ ([(_, _)] ++ [(l, _)]) _ _ _ ⟨_, rfl, ⟨_, _, _, _, _, _, rfl, rfl, hand2_ok x y⟩, ?_⟩ (by k_asm) (news_sub (by k_asm) (subC (by k_mem) (subC (by k_mem) sub0)))
  intro q hq
  rw [List.mem_singleton] at hq
  subst hq
  intro h
  rw [List.map_cons, List.map_nil, List.mem_singleton] at h
  have h2 : @Eq Nat _ _ := h
  dsimp only at h2
  omega
end
section
theorem fill_B3 : K = K ∧ PySem.Challenge.rw_sn0097_01 = PySem.Challenge.rw_sn0097_01 := by k_fill; exact ⟨rfl, rfl⟩
set_option maxHeartbeats 4000000 in
theorem c_b3 (w : World) (x : Nat) (tx : Tok) (hx : isLetter x = true) : Spec w 161 3 [] [.str ⟨#[x]⟩ tx] (isStr ⟨#[lowL x]⟩) := by
  first | k_dflt ((refine' core_plain ?zho ?zhcd ?zhb ?zhl ?zhdep ?zhcell ?zhco ?zhgen ?zhk ?_; (case zho => k_is); (case zhcd => k_is); (case zhcell => decide); (case zhb => exact fun _ => rfl); (case zhl => exact locs rfl); (case zhdep => decide); (case zhco => exact rfl); (case zhgen => exact rfl); (case zhk => exact rfl); k_whole)) | k_dflt ((refine' core_cells ?zho ?zhcd ?zhb ?zhki ?zhnd ?zhdep ?zhco ?zhgen ?zhk ?_; (case zho => k_is); (case zhcd => k_is); (case zhb => exact fun _ => rfl); (case zhki => exact rfl); (case zhnd => decide +kernel); (case zhdep => decide); (case zhco => exact rfl); (case zhgen => exact rfl); (case zhk => exact rfl); k_whole)) | fail "enter"
  intro p loose mean mg mb dp un gd cn cs a ccd cl outer L base g L' s Qf Er F N hlt B X T hk hd hu hret
  k_steps
  refine r_b3_method (P := w.params) (by k_in) ?_
  k_steps
  rcases b3_letter hx with ⟨hv, hx2⟩ | ⟨t, hv⟩
  · refine r_b3_get (P := w.params) (v := .none) (by k_in) (by rw [hv]; rfl) ?_
    k_steps
    refine r_lower (low_letter hx hx2) (by rfl) ?_
    intro _ _
    k_steps
    exact hret _ _ _ _ _ (of_str rfl) (by k_asm) (by k_asm)
  · refine r_b3_get (P := w.params) (v := .str ⟨#[lowL x]⟩ t) (by k_in) (by rw [hv]; rfl) ?_
    k_steps
    exact hret _ _ _ _ _ (of_str rfl) (by k_asm) (by k_asm)
end
section
section
variable {w : World} {f : Addr} {dep : Nat} {wr news : List (Addr × Obj)} {vs : List Value} {p : Program} {loose : List Str} {mean : ExcName → Option Value} {mg mb : Str → Option Value} {dp un : Nat} {gd : Option (List Code)} {cn : Str} {cs : Scope} {a : Addr} {ccd : Value} {cl : List (Str × Addr)} {outer : List Env} {A₀ : Around} {base h₀ : Heap} {L : Addr} {m : Str → Option Value} {s : Shared} {Q E : Value → Shared → Prop}
theorem use_tab {P x : Addr} {l c : Nat} {qn : Str} {o ox : Obj} {kept : List (Addr × Obj)} {R : Value → List (Addr × Obj) → Prop} {g : Obj → List (Addr × Obj)} (C : Core w f dep (kept ++ [(P, o), (x, ox)]) vs (tabRK P l c qn x ox kept R)) (hs : ∀ p ∈ kept ++ [(P, o), (x, ox)], p ∈ news) (B : Below A₀ base outer h₀) (F : Fr h₀ L s.heap m) (X : (K w.params).In h₀) (N : News h₀ L s.heap news) (T : Top p loose mean mg mb h₀) (hk : cs.kind = .function) (hd : dp + dep < recursionLimit) (hu : un + 8 * dep < cLine)
    (U : UpdF P o news g)
    (h : ∀ r new x' ox' h' tk', R r new → CodeOk qn ox' → Fr h₀ L h' m → News h₀ L h' (new ++ ((x', ox') :: g (madeTab P l c x').2)) → (∀ q ∈ new, ∀ p ∈ news, p.1 ≠ q.1) → (@LT.lt Nat _ x' P ∨ @LT.lt Nat _ P x') → (∀ p ∈ news, p.1 ≠ x → (∀ k ∈ kept, p.1 ≠ k.1) → p.1 ≠ x') → Q r { s with heap := h', toks := tk' }) : wpAny (model pgm w) (ktrTop dp un gd cn cs L a ccd cl outer) (call (.ref f) vs) Q E s :=
  use_wr C hs B F X N T hk hd hu fun r out h' tk' hr F' N' hkeep hsame hnew => by
    obtain ⟨new, x', ox', hR, hco, rfl, hne, hoff⟩ := hr
    obtain ⟨own, rest, e1, e2, hown, hrest⟩ := U.split
    have fresh : ∀ q ∈ new, ∀ p ∈ news, p.1 ≠ q.1 := fun q hq => (hnew q (List.mem_append_left _ hq)).resolve_left fun hb => by
      obtain ⟨y, hy, e⟩ := List.mem_map.mp hb
      rcases List.mem_append.mp hy with hy | hy
      · exact (hne q hq).2 (e ▸ List.mem_map_of_mem hy)
      · rcases List.mem_cons.mp hy with rfl | hy
        · exact (hne q hq).1 (by rw [← e]; exact .head _)
        · rw [List.mem_singleton] at hy
          subst hy
          exact (hne q hq).1 (by rw [← e]; exact .tail _ (.head _))
    have one : ∀ y ∈ news, y.1 ≠ P → h'.get? y.1 = some y.2 ∧ y.1 ≠ L ∧ h₀.get? y.1 = none := fun y hy hyP => by
      by_cases hb : y.1 ∈ (kept ++ [(P, o), (x, ox)]).map (·.1)
      · obtain ⟨z, hz, e⟩ := List.mem_map.mp hb
        obtain rfl := hsame y hy z hz e.symm
        refine N' y ?_
        rcases List.mem_append.mp hz with hz | hz
        · exact List.mem_append_right _ (List.mem_append_right _ hz)
        · rcases List.mem_cons.mp hz with rfl | hz
          · exact absurd rfl hyP
          · rw [List.mem_singleton] at hz
            subst hz
            exact List.mem_append_right _ (List.mem_append_left _ (.tail _ (.tail _ (.head _))))
      · exact hkeep y hy hb
    refine h r new x' ox' h' tk' hR hco F' (fun y hy => ?_) fresh hoff fun y hy hyx hyk => ?_
    · rcases List.mem_append.mp hy with hy | hy
      · exact N' y (List.mem_append_left _ hy)
      · rcases List.mem_cons.mp hy with rfl | hy
        · exact N' _ (List.mem_append_right _ (List.mem_append_left _ (.tail _ (.head _))))
        · rw [e2] at hy
          rcases List.mem_append.mp hy with hy | hy
          · exact one y (by rw [e1]; exact List.mem_append_left _ hy) (hown y hy)
          · rcases List.mem_cons.mp hy with rfl | hy
            · exact N' _ (List.mem_append_right _ (List.mem_append_left _ (.head _)))
            · exact one y (by rw [e1]; exact List.mem_append_right _ (.tail _ hy)) (hrest y hy)
    · intro e
      rcases hnew (x', ox') (List.mem_append_right _ (List.mem_append_left _ (.tail _ (.head _)))) with hb | hb
      · obtain ⟨z, hz, e'⟩ := List.mem_map.mp hb
        have e' : z.1 = x' := e'
        rcases List.mem_append.mp hz with hz | hz
        · exact hyk z hz (e.trans e'.symm)
        · rcases List.mem_cons.mp hz with rfl | hz
          · rcases hoff with hoff | hoff
            · exact Nat.ne_of_lt hoff e'.symm
            · exact Nat.ne_of_lt hoff e'
          · rw [List.mem_singleton] at hz
            subst hz
            exact hyx (e.trans e'.symm)
      · exact hb y hy e
theorem tab_kept {P x : Addr} {l c : Nat} {qn : Str} {o ox : Obj} {R : Value → List (Addr × Obj) → Prop} (C : Core w f dep [(P, o), (x, ox)] vs (tabR P l c qn x ox R)) : Core w f dep ([] ++ [(P, o), (x, ox)]) vs (tabRK P l c qn x ox [] R) := by
  intro p loose mean mg mb dp un gd cn cs a ccd cl outer A₀ base h₀ L m s Q E B F X N T hk hd hu hret
  refine C p loose mean mg mb dp un gd cn cs a ccd cl outer A₀ base h₀ L m s Q E B F X N T hk hd hu fun r out h' tk' hr => hret r out h' tk' ?_
  obtain ⟨new, x', ox', a1, a2, a3, a4, a5⟩ := hr
  exact ⟨new, x', ox', a1, a2, by rw [List.append_nil]; exact a3, fun q hq => ⟨a4 q hq, fun h => nomatch h⟩, a5⟩
theorem use_pair {x y : Int} (C : Spec w f dep wr vs (isPair x y)) (hs : ∀ p ∈ wr, p ∈ news) (B : Below A₀ base outer h₀) (F : Fr h₀ L s.heap m) (X : (K w.params).In h₀) (N : News h₀ L s.heap news) (T : Top p loose mean mg mb h₀) (hk : cs.kind = .function) (hd : dp + dep < recursionLimit) (hu : un + 8 * dep < cLine)
    (h : ∀ T t1 t2 h' tk', Fr h₀ L h' m → News h₀ L h' ((T, ⟨.type "tuple", none, .seq #[.int x t1, .int y t2] 0, #[]⟩) :: news) → Q (.ref T) { s with heap := h', toks := tk' }) : wpAny (model pgm w) (ktrTop dp un gd cn cs L a ccd cl outer) (call (.ref f) vs) Q E s :=
  use_any C hs B F X N T hk hd hu fun r new h' tk' hr F' N' _ => by
    obtain ⟨T, t1, t2, rfl, rfl⟩ := hr
    exact h T t1 t2 h' tk' F' N'
end
theorem drop_tup {α : Type} {M : Model} {A : Around} {t : Sem α} {Q : α → Shared → Prop} {E : Value → Shared → Prop} {s : Shared} {h₀ : Heap} {L T : Addr} {vs : Array Value} {k : Nat} {news : List (Addr × Obj)} (N : News h₀ L s.heap ((T, ⟨.type "tuple", none, .seq vs k, #[]⟩) :: news)) (h : News h₀ L s.heap news → wpAny M A t Q E s) : wpAny M A t Q E s := h fun p hp => N p (.tail _ hp)
theorem st_made {P : Addr} {l c : Nat} {q : Str} {x : Addr} {ox : Obj} (C : CodeOk q ox) : St P l c q (madeTab P l c x).2 x ox := .inr ⟨rfl, C⟩
theorem c_d2e (w : World) (a : Int) (ta tb tn : Tok) (ha : 0 ≤ a ∧ a < 16) : Spec w 35 3 [] [.int a ta, .int 3 tb, .int 2 tn] (isPair (a / 3) (a % 3)) := by
  have := c_d2 w a ta tb tn ha
  rwa [Int.fdiv_eq_ediv_of_nonneg a (by decide), Int.fmod_eq_emod_of_nonneg a (by decide)] at this
/-- what a call gives that comes by both code tables -/
inductive tab2R (x : Addr) (ox : Obj) (y : Addr) (oy : Obj) (R : Value → List (Addr × Obj) → Prop) (r : Value) (out : List (Addr × Obj)) : Prop
  | mk (new : List (Addr × Obj)) (x' : Addr) (ox' : Obj) (y' : Addr) (oy' : Obj) (fl1 : R r new) (fl2 : CodeOk q1 ox') (fl3 : CodeOk q2 oy') (fl4 : out = new ++ [madeTab 44 80 4 x', (x', ox'), (x, ox), madeTab 51 95 4 y', (y', oy'), (y, oy)]) (fl5 : (∀ q ∈ new, q.1 ∉ [44, x, 51, y])) (fl6 : ((@LT.lt Nat _ x' 44 ∨ @LT.lt Nat _ 44 x') ∧ (@LT.lt Nat _ x' 51 ∨ @LT.lt Nat _ 51 x'))) (fl7 : (@LT.lt Nat _ y' 44 ∨ @LT.lt Nat _ 44 y')) (fl8 : (@LT.lt Nat _ y' 51 ∨ @LT.lt Nat _ 51 y')) : tab2R x ox y oy R r out
end
section
local macro_rules | `(tactic| k_room) => `(tactic| (ktr_room))
local macro_rules | `(tactic| walk_at "execs cons") => `(tactic| (k_here; refine gen_toks ?_; intro tk; (try k_made); (try (with_reducible refine drop_tup (by assumption) ?_; intro N8)); (with_reducible refine wpAny_execs_cons ?_); try dsimp only))
local macro_rules | `(tactic| walk_at "execs nil") => `(tactic| (k_here; refine gen_toks ?_; intro tk; (try (with_reducible refine drop_tup (by assumption) ?_; intro N8)); refine wpAny_execs_nil ?_))
section
theorem fill_DP : K = K ∧ PySem.Challenge.rw_sn0097_01 = PySem.Challenge.rw_sn0097_01 := by k_fill; exact ⟨rfl, rfl⟩
theorem ne_of_all {news : List (Addr × Obj)} {x : Addr} (h : ∀ p ∈ news, p.1 ≠ x) {P : Addr} {o : Obj} (hm : (P, o) ∈ news) : @LT.lt Nat _ x P ∨ @LT.lt Nat _ P x := (Nat.lt_or_gt_of_ne (fun e => h _ hm e.symm))
theorem ne_of_all2 {news : List (Addr × Obj)} {x x' : Addr} (h : ∀ p ∈ news, p.1 ≠ x → (∀ k ∈ ([] : List (Addr × Obj)), p.1 ≠ k.1) → p.1 ≠ x') {P : Addr} {o : Obj} (hm : (P, o) ∈ news) (hx : @LT.lt Nat _ x P ∨ @LT.lt Nat _ P x) : @LT.lt Nat _ x' P ∨ @LT.lt Nat _ P x' :=
  Nat.lt_or_gt_of_ne (fun e => h _ hm (fun e' => by have e' : @Eq Nat P x := e'; omega) (fun _ h => nomatch h) e.symm)
theorem ne_of_all3 {news : List (Addr × Obj)} {x x' l : Addr} {ol : Obj} (h : ∀ p ∈ news, p.1 ≠ x → (∀ k ∈ [(l, ol)], p.1 ≠ k.1) → p.1 ≠ x') {P : Addr} {o : Obj} (hm : (P, o) ∈ news) (hx : @LT.lt Nat _ x P ∨ @LT.lt Nat _ P x) (hl : @LT.lt Nat _ l P ∨ @LT.lt Nat _ P l) : @LT.lt Nat _ x' P ∨ @LT.lt Nat _ P x' :=
  Nat.lt_or_gt_of_ne (fun e => h _ hm (fun e' => by have e' : @Eq Nat P x := e'; omega) (fun k hk e' => by rw [List.mem_singleton] at hk; subst hk; have e' : @Eq Nat P l := e'; omega) e.symm)
theorem fresh0 {x P Q y : Addr} : ∀ q ∈ ([] : List (Addr × Obj)), q.1 ∉ [P, x, Q, y] := fun _ h => nomatch h
theorem ints_1 {vs : List Value} {d0 : Int} (h : IntsAre vs [d0]) : ∃ t0, vs = [.int d0 t0] := by
  cases h with | cons _ t0 h =>
  cases h
  exact ⟨t0, rfl⟩
theorem ints_2 {vs : List Value} {d0 d1 : Int} (h : IntsAre vs [d0, d1]) : ∃ t0 t1, vs = [.int d0 t0, .int d1 t1] := by
  cases h with | cons _ t0 h =>
  cases h with | cons _ t1 h =>
  cases h
  exact ⟨t0, t1, rfl⟩
theorem ints_3 {vs : List Value} {d0 d1 d2 : Int} (h : IntsAre vs [d0, d1, d2]) : ∃ t0 t1 t2, vs = [.int d0 t0, .int d1 t1, .int d2 t2] := by
  cases h with | cons _ t0 h =>
  cases h with | cons _ t1 h =>
  cases h with | cons _ t2 h =>
  cases h
  exact ⟨t0, t1, t2, rfl⟩
theorem mk_pair {x y i j : Int} {T : Addr} {t u : Tok} (e1 : i = x) (e2 : j = y) : isPair x y (.ref T) [(T, ⟨.type "tuple", none, .seq #[.int i t, .int j u] 0, #[]⟩)] := ⟨T, t, u, rfl, by rw [e1, e2]⟩
theorem fresh4 {D P x Q y : Addr} {o : Obj} (h1 : @LT.lt Nat _ P D) (h2 : @LT.lt Nat _ x D) (h3 : @LT.lt Nat _ Q D) (h4 : @LT.lt Nat _ y D) : ∀ q ∈ [(D, o)], q.1 ∉ [P, x, Q, y] := fun q hq h => by
  rw [List.mem_singleton] at hq
  subst hq
  simp only [List.mem_cons, List.not_mem_nil, or_false] at h
  rcases h with h | h | h | h
  · exact absurd h1 (by rw [show P = D from h.symm]; exact Nat.lt_irrefl _)
  · exact absurd h2 (by rw [show x = D from h.symm]; exact Nat.lt_irrefl _)
  · exact absurd h3 (by rw [show Q = D from h.symm]; exact Nat.lt_irrefl _)
  · exact absurd h4 (by rw [show y = D from h.symm]; exact Nat.lt_irrefl _)
theorem r_bits3 {w : World} {A : Around} {E : Value → Shared → Prop} {s : Shared} {t : Tok} {Q : Value → Shared → Prop} (h : Q (.int 2 s.toks) { s with toks := s.toks + 1 }) : wpAny (model pgm w) A (call (.builtin "int.bit_length") [.int 3 t]) Q E s :=
  call_int_bit_length (show Q (.int ((Builtin.Int.intBits 3 : Nat) : Int) s.toks) _ by rw [show ((Builtin.Int.intBits 3 : Nat) : Int) = 2 from rfl]; exact h)
local macro_rules | `(tactic| walk_at "call builtin:int.bit_length") => `(tactic| (k_here; with_reducible refine r_bits3 ?_))
theorem r_shl2n {w : World} {A : Around} {E : Value → Shared → Prop} {s : Shared} {Q : Value → Shared → Prop} {a : Int} {t u : Tok} (h0 : 0 ≤ a ∧ a < 3) (h : Q (.int (a * 4) s.toks) { s with toks := s.toks + 1 }) : wpAny (model pgm w) A (binaryOp .LShift (.int a t) (.int 2 u)) Q E s :=
  lshift_int_small (by decide) (by decide) (by omega) h
local macro_rules | `(tactic| walk_at "binaryOp LShift int int") => `(tactic| (k_here; (with_reducible refine r_shl2n (by assumption) ?_)))
local macro_rules | `(tactic| walk_at "call ref") => `(tactic| refine Stuck.out ?_)
local macro_rules | `(tactic| walk_at "call type:reversed") => `(tactic| refine Stuck.out ?_)
local macro_rules | `(tactic| walk_at "pyIter ref") => `(tactic| refine Stuck.out ?_)
local macro_rules | `(tactic| walk_at "call builtin:list.append") => `(tactic| refine Stuck.out ?_)
local macro_rules | `(tactic| walk_at "call builtin:list.reverse") => `(tactic| refine Stuck.out ?_)
local macro_rules | `(tactic| walk_at "UnrPost") => `(tactic| refine Stuck.out ?_)
theorem rev_ind {w : World} {A : Around} {E : Value → Shared → Prop} {h₀ : Heap} {env : Env} {x : Str} {body : List Stmt} {Q : Flow → Shared → Prop} {s : Shared} {I : Addr} {lp : Addr × Obj} (Inv : List Value → (Str → Option Value) → List (Addr × Obj) → Prop)
    (fin : ∀ m news, Inv [] m news → ∀ h tk, Fr h₀ env.locals h m → News h₀ env.locals h news → Q .next { s with heap := h, toks := tk })
    (step : ∀ v r m news, Inv (v :: r) m news → ∀ (it : Obj) h tk, it.cls = .type "list_reverseiterator" → Fr h₀ env.locals h (fun y => if y = x then some v else m y) → News h₀ env.locals h ((I, it) :: news) →
      wpAny (model pgm w) A (execs body env) (UnrPost h₀ env.locals { s with heap := h, toks := tk } I it (fun m' n' => lp ∈ n' ∧ Inv r m' n') Q) E { s with heap := h, toks := tk }) :
    ∀ r m news, Inv r m news → RevRest pgm w A E h₀ env x body Q s I lp r m news := by
  intro r
  induction r with
  | nil => intro m news hI; exact RevRest.zero (fin m news hI)
  | cons v r ih =>
    intro m news hI
    refine RevRest.succ fun it h tk hit F N => wpAny_mono (step v r m news hI it h tk hit F N) (fun f s₂ hp => ?_) (fun _ _ h => h)
    unfold UnrPost at hp ⊢
    split
    · exact hp
    · exact hp
    · simp only at hp
      obtain ⟨h', tk', m', news', e, F', N', off, hl, hI'⟩ := (by assumption : UnrEnd _ _ _ _ _ _ _)
      exact ⟨h', tk', m', news', e, F', N', off, hl, ih m' news' hI'⟩
theorem rev_start {w : World} {A : Around} {E : Value → Shared → Prop} {h₀ : Heap} {env : Env} {x : Str} {body : List Stmt} {Q : Flow → Shared → Prop} {s : Shared} {I : Addr} {lp : Addr × Obj} {r : List Value} {m : Str → Option Value} {Qa : Addr} {o : Obj} {news : List (Addr × Obj)} (k : ∀ m0 Qa', m0 = m → Qa' = Qa → RevRest pgm w A E h₀ env x body Q s I lp r m0 ((Qa', o) :: news)) : RevRest pgm w A E h₀ env x body Q s I lp r m ((Qa, o) :: news) := k m Qa rfl rfl
/-- the loop's state: r the digits left, the greatest first -/
inductive DpInv (a : Int) (m0 : Str → Option Value) (Qa : Addr) (rest : List (Addr × Obj)) (r : List Value) (m : Str → Option Value) (news : List (Addr × Obj)) : Prop
  | mk (rds : List Int) (rr : Int) (tr : Tok) (qs : List Value) (qds : List Int) (nq : Nat) (vA vQ : Option Value) (fl1 : IntsAre r rds) (fl2 : (∀ d ∈ rds, 0 ≤ d ∧ d < 4)) (fl3 : (0 ≤ rr ∧ rr < 3)) (fl4 : IntsAre qs qds) (fl5 : (∀ d ∈ qds, 0 ≤ d ∧ d < 16)) (fl6 : qds.length + rds.length ≤ 4) (fl7 : a = (3 * undig 2 qds.reverse + rr) * 4 ^ rds.length + undig 2 rds.reverse) (fl8 : m = (fun y => if y = Str.ofString "r" then some (.int rr tr) else if y = Str.ofString "q_digit" then vQ else if y = Str.ofString "a_digit" then vA else m0 y)) (fl9 : news = (Qa, listOf (List.toArray qs) nq) :: rest) : DpInv a m0 Qa rest r m news
theorem app_K {w : World} {A : Around} {E : Value → Shared → Prop} {s : Shared} {h₀ : Heap} {L D : Addr} {m : Str → Option Value} {news news' : List (Addr × Obj)} {qs : List Value} {n : Nat} {x : Value} {Q : Value → Shared → Prop} (F : Fr h₀ L s.heap m) (N : News h₀ L s.heap news) (U : Upd D (listOf (List.toArray qs) n) (listOf (List.toArray (qs ++ [x])) (n + 1)) news news') (hq : qs.length ≤ 4)
    (h : ∀ h', Fr h₀ L h' m → News h₀ L h' news' → Q .none { s with heap := h' }) : wpAny (model pgm w) A (call (.builtin "list.append") [.ref D, x]) Q E s :=
  append_K F N (by rw [List.push_toArray]; exact U) h (by rw [List.size_toArray]; exact Nat.le_trans hq (Nat.le_of_ble_eq_true rfl))
theorem dp_turn {a rr d : Int} {qds rds : List Int} (h : a = (3 * undig 2 qds.reverse + rr) * 4 ^ (d :: rds).length + undig 2 (d :: rds).reverse) :
    a = (3 * undig 2 (qds ++ [(rr * 4 + d) / 3]).reverse + (rr * 4 + d) % 3) * 4 ^ rds.length + undig 2 rds.reverse := by
  rw [h, List.reverse_append, List.reverse_singleton, List.singleton_append, List.reverse_cons, undig_app, List.length_reverse, List.length_cons, Int.pow_succ]
  show (3 * undig 2 qds.reverse + rr) * (4 ^ rds.length * 4) + ((0 * 2 ^ 2 + d) * 2 ^ (2 * rds.length) + undig 2 rds.reverse) = (3 * (undig 2 qds.reverse * 2 ^ 2 + (rr * 4 + d) / 3) + (rr * 4 + d) % 3) * 4 ^ rds.length + undig 2 rds.reverse
  have e : (2 : Int) ^ (2 * rds.length) = 4 ^ rds.length := by rw [Int.pow_mul]; rfl
  have e1 : (3 * undig 2 qds.reverse + rr) * (4 ^ rds.length * 4) = ((3 * undig 2 qds.reverse + rr) * 4) * 4 ^ rds.length := by rw [Int.mul_assoc, Int.mul_comm 4]
  have e2 : 3 * (undig 2 qds.reverse * 2 ^ 2 + (rr * 4 + d) / 3) + (rr * 4 + d) % 3 = (3 * undig 2 qds.reverse + rr) * 4 + (0 * 2 ^ 2 + d) := by simp only [Int.reducePow]; omega
  rw [e, e1, e2, Int.add_mul ((3 * undig 2 qds.reverse + rr) * 4)]
  omega
theorem undig_digs (b : Nat) : ∀ (k : Nat) (x : Int), 0 ≤ x → x < 2 ^ (b * k) → undig b (digs b k x) = x
  | 0, x, h0, h1 => by simp at h1; show (0 : Int) = x; omega
  | k + 1, x, h0, h1 => by
    show undig b (digs b k (x / 2 ^ b)) * 2 ^ b + x % 2 ^ b = x
    rw [undig_digs b k (x / 2 ^ b) (Int.ediv_nonneg h0 (Int.le_of_lt (p2 b))) (Int.ediv_lt_of_lt_mul (p2 b) (by rw [← Int.pow_add]; rw [show b * k + b = b * (k + 1) by rw [Nat.mul_add, Nat.mul_one]]; exact h1)), Int.mul_comm]
    exact Int.mul_ediv_add_emod x _
theorem digs_lt4 : ∀ (k : Nat) (x : Int), ∀ d ∈ digs 2 k x, 0 ≤ d ∧ d < 4
  | 0, _, _, h => nomatch h
  | k + 1, x, d, h => by
    rcases List.mem_cons.mp h with rfl | h
    · simp only [Int.reducePow]; omega
    · exact digs_lt4 k _ d h
set_option maxHeartbeats 4000000 in
theorem c_dpk (w : World) (a : Int) (k : Nat) (ta tb : Tok) (hk4 : k ≤ 4) (ha0 : 0 ≤ a) (ha1 : a < 2 ^ (2 * k)) (ha2 : k = 0 ∨ 1 ≤ k ∧ 2 ^ (2 * (k - 1)) ≤ a) (o1 : Obj) (x : Addr) (ox : Obj) (o2 : Obj) (y : Addr) (oy : Obj) (S1 : St 44 80 4 q1 o1 x ox) (S2 : St 51 95 4 q2 o2 y oy) (hx1 : @LT.lt Nat _ x 44 ∨ @LT.lt Nat _ 44 x) (hx2 : @LT.lt Nat _ x 51 ∨ @LT.lt Nat _ 51 x) (hy1 : @LT.lt Nat _ y 44 ∨ @LT.lt Nat _ 44 y) (hy2 : @LT.lt Nat _ y 51 ∨ @LT.lt Nat _ 51 y) :
    Core w 63 12 [(44, o1), (x, ox), (51, o2), (y, oy)] [.int a ta, .int 3 tb] (tab2R x ox y oy (isPair (a / 3) (a % 3))) := by
  first | k_dflt ((refine' core_plain ?zho ?zhcd ?zhb ?zhl ?zhdep ?zhcell ?zhco ?zhgen ?zhk ?_; (case zho => k_is); (case zhcd => k_is); (case zhcell => decide); (case zhb => exact fun _ => rfl); (case zhl => exact locs rfl); (case zhdep => decide); (case zhco => exact rfl); (case zhgen => exact rfl); (case zhk => exact rfl); k_whole)) | k_dflt ((refine' core_cells ?zho ?zhcd ?zhb ?zhki ?zhnd ?zhdep ?zhco ?zhgen ?zhk ?_; (case zho => k_is); (case zhcd => k_is); (case zhb => exact fun _ => rfl); (case zhki => exact rfl); (case zhnd => decide +kernel); (case zhdep => decide); (case zhco => exact rfl); (case zhgen => exact rfl); (case zhk => exact rfl); k_whole)) | fail "enter"
  intro p loose mean mg mb dp un gd cn cs a' ccd cl outer L base g L' s Qf Er F N hlt B X T hk hd hu hret
  k_lt hlt
  k_steps
  refine ⟨?_⟩
  refine' use_tab (tab_kept (c_i2 w a 2 _ _ 2 k (.inr rfl) rfl hk4 ha0 ha1 ha2 o1 x ox S1 hx1)) ?hs ?B ?F ?X ?N ?T ?hk ?hd ?hu ?U ?_
  case N => k_asm
  case hs => exact subC (by k_mem) (subC (by k_mem) sub0)
  case B => k_asm
  case F => k_asm
  case X => k_asm
  case T => k_asm
  case hk => exact rfl
  case hd => omega
  case hu => omega
  case U => k_updF
  intro r9 new9 x9 ox9 h9 tk9 hR9 hC9 F9 N9 hf9 ho9 hv9
  obtain ⟨D9, vs9, n9, e9, f9, hI9⟩ := hR9
  subst e9
  subst f9
  (try dsimp only [List.cons_append, List.nil_append] at N9)
  have e51 := ne_of_all (hf9 _ (.head _)) (P := 51) (by k_mem)
  have e44 := ne_of_all (hf9 _ (.head _)) (P := 44) (by k_mem)
  have e51' := ne_of_all2 hv9 (P := 51) (by k_mem) (by omega)
  clear hf9 hv9
  k_steps
  refine ⟨?_⟩
  refine krv_reversed (by k_asm) (by k_asm) (News.isList (by k_asm) (by k_mem)) ?_
  intro I h1 F1 N1 l1
  k_lt l1
  k_steps
  refine ⟨?_⟩
  rename Fr _ _ _ _ => F2
  rename News _ _ _ _ => N2
  with_unfolding_all refine iter_revUnr (lo := listOf (List.toArray vs9) n9) (vs := vs9) (by rfl) F2 N2 (by k_offL) (by k_mem) (by rfl) (by rfl) ?_
  clear F2 N2
  refine rev_start ?_
  intro m0 Qa hm0 hQa
  subst hQa
  have hl9 := (IntsAre.length hI9).trans (digs_len 2 k a)
  refine' rev_ind (DpInv a m0 Qa [(D9, listOf (List.toArray vs9) n9), (x9, ox9), (44, tabObj (#[] ++ #[rawInt (80 : Nat), rawInt (4 : Nat), Value.ref x9])), (x, ox), (51, o2), (y, oy)]) ?fin ?step (List.reverse vs9) m0 _ ?init
  case init =>
    obtain ⟨tr0, hr0⟩ : ∃ tr, m0 (Str.ofString "r") = some (.int 0 tr) := by rw [hm0]; exact ⟨_, rfl⟩
    refine ⟨(digs 2 k a).reverse, 0, tr0, [], [], 0, m0 (Str.ofString "a_digit"), m0 (Str.ofString "q_digit"), IntsAre.reverse hI9, fun d hd => digs_lt4 k a d (List.mem_reverse.mp hd), ⟨by decide, by decide⟩, .nil, (fun _ h => nomatch h), ?_, ?_, ?_, rfl⟩
    · rw [List.length_reverse, digs_len]; show 0 + k ≤ 4; omega
    · rw [List.reverse_reverse, undig_digs 2 k a ha0 ha1]; show a = (3 * 0 + 0) * _ + a; simp
    · funext y
      by_cases e1 : y = Str.ofString "r"
      · subst e1; rw [if_pos rfl]; exact hr0
      rw [if_neg e1]
      by_cases e2 : y = Str.ofString "q_digit"
      · subst e2; rw [if_pos rfl]
      rw [if_neg e2]
      by_cases e3 : y = Str.ofString "a_digit"
      · subst e3; rw [if_pos rfl]
      rw [if_neg e3]
  case step =>
    intro v r m news hI it h tk hit F N
    obtain ⟨rds, rr, tr, qs, qds, nq, vA, vQ, hr, hrd, hrr, hq, hqd, hlen, hEq, e1, e2⟩ := hI
    subst e1 e2
    cases hr with
    | @cons d t _ rds hr =>
    subst hm0
    have F3 : Fr g L' h _ := F
    have N3 : News g L' h _ := N
    clear F N
    have hd4 := hrd d (.head _)
    k_steps
    refine ⟨?_⟩
    refine' use_pair (c_d2e _ _ _ _ _ ?ha) ?hs1 ?B1 ?F1 ?X1 ?N1 ?T1 ?hk1 ?hd1 ?hu1 ?_
    case N1 => k_asm
    case hs1 => exact sub0
    case B1 => k_asm
    case F1 => k_asm
    case X1 => k_asm
    case T1 => k_asm
    case hk1 => exact rfl
    case hd1 => omega
    case hu1 => omega
    case ha => omega
    intro T9 t9 u9 h8 tk8 F8 N8
    k_steps
    refine ⟨?_⟩
    have hlq := IntsAre.length hq
    refine app_K (by k_asm) (by k_asm) (by k_upd) (by omega) ?_
    intro h7 F7 N7
    k_steps
    refine ⟨?_⟩
    dsimp only [UnrPost]
    rename Fr _ _ _ _ => F6
    rename News _ _ _ _ => N6
    refine UnrEnd.intro F6 N6 _ (fun _ h => h) (by k_all) ⟨by k_mem, rds, (rr * 4 + d) % 3, u9, qs ++ [.int ((rr * 4 + d) / 3) t9], qds ++ [(rr * 4 + d) / 3], nq + 1, some (.int d t), some (.int ((rr * 4 + d) / 3) t9), hr, fun d hd => hrd d (.tail _ hd), by omega, IntsAre.append hq (.cons _ _ .nil), ?_, ?_, dp_turn hEq, ?_, rfl⟩
    · intro e he
      rcases List.mem_append.mp he with he | he
      · exact hqd e he
      · rw [List.mem_singleton] at he; subst he; omega
    · rw [List.length_append]; simp only [List.length_cons, List.length_nil] at hlen ⊢; omega
    · funext y
      by_cases e1 : y = Str.ofString "r"
      · subst e1; rfl
      by_cases e2 : y = Str.ofString "q_digit"
      · subst e2; rfl
      by_cases e3 : y = Str.ofString "a_digit"
      · subst e3; rfl
      simp only [if_neg e1, if_neg e2, if_neg e3]
  case fin =>
    intro m news hI h tk F N
    obtain ⟨rds, rr, tr, qs, qds, nq, vA, vQ, hr, hrd, hrr, hq, hqd, hlen, hEq, e1, e2⟩ := hI
    subst e1 e2
    cases hr
    subst hm0
    have F3 : Fr g L' h _ := F
    have N3 : News g L' h _ := N
    clear F N
    have hEq : a = (3 * undig 2 qds.reverse + rr) * 1 + 0 := hEq
    have hlq := IntsAre.length hq
    have hlen : qds.length + 0 ≤ 4 := hlen
    k_steps
    refine ⟨?_⟩
    refine kl_reverse (its := List.toArray qs) (by k_asm) (by k_asm) rfl (by k_upd) (Nat.le_trans (by show qs.length ≤ 4; omega) (Nat.le_of_ble_eq_true rfl)) ?_
    intro h7 F7 N7
    k_steps
    refine ⟨?_⟩
    refine' use_tab (kept := [(_, _)]) (c_d2i w _ _ _ 2 2 _ _ _ (IntsAre.reverse hq) rfl ?l4 (.inr rfl) rfl (fun d hd => hqd d (List.mem_reverse.mp hd)) o2 y oy S2 hy2 ?hl) ?hs ?B ?F ?X ?N ?T ?hk ?hd ?hu ?U ?_
    case N => k_asm
    case hs => exact subC (by k_mem) (subC (by k_mem) (subC (by k_mem) sub0))
    case l4 => rw [List.length_reverse]; omega
    case hl => omega
    case B => k_asm
    case F => k_asm
    case X => k_asm
    case T => k_asm
    case hk => exact rfl
    case hd => omega
    case hu => omega
    case U => k_updF
    intro r9 new9 x8 ox8 h9 tk9 hR9 hC8 F9 N9 hf9 ho8 hv9
    obtain ⟨e9, t9, f9⟩ := hR9
    subst e9
    subst f9
    (try dsimp only [List.cons_append, List.nil_append] at N9)
    have e44 := ne_of_all3 hv9 (P := 44) (by k_mem) (by omega) (by omega)
    clear hf9 hv9
    k_steps
    refine' hret _ ([(_, _)] ++ [_, (_, _), (x, ox), _, (_, _), (y, oy)]) _ _ _ ⟨[(_, _)], _, _, _, _, ?kp, hC9, hC8, rfl, ?kf, ⟨?o1, ?o2⟩, ?o3, ?o4⟩ ?F2 ?N2
    case F2 => k_asm
    case N2 => exact news_sub (by k_asm) (subC (by k_mem) (subC (by k_mem) (subC (by k_mem) (subC (by k_mem) (subC (by k_mem) (subC (by k_mem) (subC (by k_mem) sub0)))))))
    case kp => exact mk_pair (by omega) (by omega)
    case kf => exact fresh4 (by omega) (by omega) (by omega) (by omega)
    case o1 => omega
    case o2 => omega
    case o3 => omega
    case o4 => omega
theorem c_dp (w : World) (a : Int) (ta tb : Tok) (ha : 0 ≤ a ∧ a < 256) (o1 : Obj) (x : Addr) (ox : Obj) (o2 : Obj) (y : Addr) (oy : Obj) (S1 : St 44 80 4 q1 o1 x ox) (S2 : St 51 95 4 q2 o2 y oy) (hx1 : @LT.lt Nat _ x 44 ∨ @LT.lt Nat _ 44 x) (hx2 : @LT.lt Nat _ x 51 ∨ @LT.lt Nat _ 51 x) (hy1 : @LT.lt Nat _ y 44 ∨ @LT.lt Nat _ 44 y) (hy2 : @LT.lt Nat _ y 51 ∨ @LT.lt Nat _ 51 y) :
    Core w 63 12 [(44, o1), (x, ox), (51, o2), (y, oy)] [.int a ta, .int 3 tb] (tab2R x ox y oy (isPair (a / 3) (a % 3))) := by
  have go : ∀ k : Nat, k ≤ 4 → a < 2 ^ (2 * k) → (k = 0 ∨ 1 ≤ k ∧ 2 ^ (2 * (k - 1)) ≤ a) → Core w 63 12 [(44, o1), (x, ox), (51, o2), (y, oy)] [.int a ta, .int 3 tb] (tab2R x ox y oy (isPair (a / 3) (a % 3))) := fun k h1 h2 h3 => c_dpk w a k ta tb h1 ha.1 h2 h3 o1 x ox o2 y oy S1 S2 hx1 hx2 hy1 hy2
  by_cases h0 : a < 1
  · exact go 0 (by decide) (by simp only [Nat.mul_zero, Int.pow_zero]; omega) (.inl rfl)
  by_cases h1 : a < 4
  · exact go 1 (by decide) (by simp only [Nat.reduceMul, Int.reducePow]; omega) (.inr ⟨by decide, by simp only [Nat.reduceMul, Nat.reduceSub, Int.reducePow]; omega⟩)
  by_cases h2 : a < 16
  · exact go 2 (by decide) (by simp only [Nat.reduceMul, Int.reducePow]; omega) (.inr ⟨by decide, by simp only [Nat.reduceMul, Nat.reduceSub, Int.reducePow]; omega⟩)
  by_cases h3 : a < 64
  · exact go 3 (by decide) (by simp only [Nat.reduceMul, Int.reducePow]; omega) (.inr ⟨by decide, by simp only [Nat.reduceMul, Nat.reduceSub, Int.reducePow]; omega⟩)
  · exact go 4 (by decide) (by simp only [Nat.reduceMul, Int.reducePow]; omega) (.inr ⟨by decide, by simp only [Nat.reduceMul, Nat.reduceSub, Int.reducePow]; omega⟩)
end
section
section
variable {w : World} {f : Addr} {dep : Nat} {wr news : List (Addr × Obj)} {vs : List Value} {p : Program} {loose : List Str} {mean : ExcName → Option Value} {mg mb : Str → Option Value} {dp un : Nat} {gd : Option (List Code)} {cn : Str} {cs : Scope} {a : Addr} {ccd : Value} {cl : List (Str × Addr)} {outer : List Env} {A₀ : Around} {base h₀ : Heap} {L : Addr} {m : Str → Option Value} {s : Shared} {Q E : Value → Shared → Prop}
theorem core_dep {dep' : Nat} {R : Value → List (Addr × Obj) → Prop} (C : Core w f dep wr vs R) (h : dep ≤ dep') : Core w f dep' wr vs R := by
  intro p loose mean mg mb dp un gd cn cs a ccd cl outer A₀ base h₀ L m s Q E B F X N T hk hd hu hret
  exact C p loose mean mg mb dp un gd cn cs a ccd cl outer A₀ base h₀ L m s Q E B F X N T hk (by omega) (by omega) hret
theorem use_tab2 {x y : Addr} {o1 ox o2 oy : Obj} {R : Value → List (Addr × Obj) → Prop} {g1 : Obj → List (Addr × Obj)} {g2 : Obj → Obj → List (Addr × Obj)}
    (C : Core w f dep [(44, o1), (x, ox), (51, o2), (y, oy)] vs (tab2R x ox y oy R)) (hs : ∀ p ∈ [(44, o1), (x, ox), (51, o2), (y, oy)], p ∈ news) (B : Below A₀ base outer h₀) (F : Fr h₀ L s.heap m) (X : (K w.params).In h₀) (N : News h₀ L s.heap news) (T : Top p loose mean mg mb h₀) (hk : cs.kind = .function) (hd : dp + dep < recursionLimit) (hu : un + 8 * dep < cLine)
    (U1 : UpdF 44 o1 news g1) (U2 : ∀ o', UpdF 51 o2 (g1 o') (g2 o'))
    (h : ∀ r new x' ox' y' oy' h' tk', R r new → CodeOk q1 ox' → CodeOk q2 oy' → Fr h₀ L h' m → News h₀ L h' (new ++ ((x', ox') :: (y', oy') :: g2 (madeTab 44 80 4 x').2 (madeTab 51 95 4 y').2)) → (∀ q ∈ new, ∀ p ∈ news, p.1 ≠ q.1) →
      (@LT.lt Nat _ x' 44 ∨ @LT.lt Nat _ 44 x') → (@LT.lt Nat _ x' 51 ∨ @LT.lt Nat _ 51 x') → (@LT.lt Nat _ y' 44 ∨ @LT.lt Nat _ 44 y') → (@LT.lt Nat _ y' 51 ∨ @LT.lt Nat _ 51 y') → (∀ p ∈ news, p.1 ≠ x → p.1 ≠ y → p.1 ≠ x' ∧ p.1 ≠ y') → Q r { s with heap := h', toks := tk' }) : wpAny (model pgm w) (ktrTop dp un gd cn cs L a ccd cl outer) (call (.ref f) vs) Q E s :=
  use_wr C hs B F X N T hk hd hu fun r out h' tk' hr F' N' hkeep hsame hnew => by
    obtain ⟨new, x', ox', y', oy', hR, hc1, hc2, rfl, hne, ⟨a1, a2⟩, a3, a4⟩ := hr
    obtain ⟨p1, r1, e1, g1e, n1, m1⟩ := U1.split
    obtain ⟨p2, r2, e2, g2e, n2, m2⟩ := (U2 (madeTab 44 80 4 x').2).split
    have inw : ∀ z, z ∈ [((44 : Addr), o1), (x, ox), (51, o2), (y, oy)] → z.1 ≠ 44 → z.1 ≠ 51 → z = (x, ox) ∨ z = (y, oy) := fun z hz h1 h2 => by
      simp only [List.mem_cons, List.not_mem_nil, or_false] at hz
      rcases hz with rfl | rfl | rfl | rfl
      · exact absurd rfl h1
      · exact .inl rfl
      · exact absurd rfl h2
      · exact .inr rfl
    have fresh : ∀ q ∈ new, ∀ p ∈ news, p.1 ≠ q.1 := fun q hq => (hnew q (List.mem_append_left _ hq)).resolve_left fun hb => by
      have := hne q hq
      simp only [List.map_cons, List.map_nil] at hb
      exact this hb
    have one : ∀ z ∈ news, z.1 ≠ 44 → z.1 ≠ 51 → h'.get? z.1 = some z.2 ∧ z.1 ≠ L ∧ h₀.get? z.1 = none := fun z hz h1 h2 => by
      by_cases hb : z.1 ∈ ([((44 : Addr), o1), (x, ox), (51, o2), (y, oy)] : List (Addr × Obj)).map (·.1)
      · obtain ⟨q, hq, e⟩ := List.mem_map.mp hb
        obtain rfl := hsame z hz q hq e.symm
        rcases inw _ hq h1 h2 with rfl | rfl
        · exact N' (x, ox) (List.mem_append_right _ (.tail _ (.tail _ (.head _))))
        · exact N' (y, oy) (List.mem_append_right _ (.tail _ (.tail _ (.tail _ (.tail _ (.tail _ (.head _)))))))
      · exact hkeep z hz hb
    have off : ∀ v ov, (v, ov) ∈ new ++ [madeTab 44 80 4 x', (x', ox'), (x, ox), madeTab 51 95 4 y', (y', oy'), (y, oy)] → v ≠ 44 → v ≠ 51 → ∀ p ∈ news, p.1 ≠ x → p.1 ≠ y → p.1 ≠ v := fun v ov hv h1 h2 p hp hx hy e => by
      rcases hnew (v, ov) hv with hb | hb
      · simp only [List.map_cons, List.map_nil, List.mem_cons, List.not_mem_nil, or_false] at hb
        rcases hb with hb | hb | hb | hb
        · exact h1 hb
        · exact hx (e.trans hb)
        · exact h2 hb
        · exact hy (e.trans hb)
      · exact hb p hp e
    have ne1 : ∀ {u v : Nat}, (u < v ∨ v < u) → u ≠ v := fun h => by omega
    refine h r new x' ox' y' oy' h' tk' hR hc1 hc2 F' (fun z hz => ?_) fresh a1 a2 a3 a4 fun p hp hx hy => ⟨off x' ox' (List.mem_append_right _ (.tail _ (.head _))) (ne1 a1) (ne1 a2) p hp hx hy, off y' oy' (List.mem_append_right _ (.tail _ (.tail _ (.tail _ (.tail _ (.head _)))))) (ne1 a3) (ne1 a4) p hp hx hy⟩
    rcases List.mem_append.mp hz with hz | hz
    · exact N' z (List.mem_append_left _ hz)
    rcases List.mem_cons.mp hz with rfl | hz
    · exact N' _ (List.mem_append_right _ (.tail _ (.head _)))
    rcases List.mem_cons.mp hz with rfl | hz
    · exact N' _ (List.mem_append_right _ (.tail _ (.tail _ (.tail _ (.tail _ (.head _))))))
    have rest : ∀ z ∈ g1 (madeTab 44 80 4 x').2, z.1 ≠ 51 → h'.get? z.1 = some z.2 ∧ z.1 ≠ L ∧ h₀.get? z.1 = none := fun z hz h2 => by
      rw [g1e] at hz
      rcases List.mem_append.mp hz with hz | hz
      · exact one z (by rw [e1]; exact List.mem_append_left _ hz) (n1 z hz) h2
      rcases List.mem_cons.mp hz with rfl | hz
      · exact N' _ (List.mem_append_right _ (.head _))
      · exact one z (by rw [e1]; exact List.mem_append_right _ (.tail _ hz)) (m1 z hz) h2
    rw [g2e] at hz
    rcases List.mem_append.mp hz with hz | hz
    · exact rest z (by rw [e2]; exact List.mem_append_left _ hz) (n2 z hz)
    rcases List.mem_cons.mp hz with rfl | hz
    · exact N' _ (List.mem_append_right _ (.tail _ (.tail _ (.tail _ (.head _)))))
    · exact rest z (by rw [e2]; exact List.mem_append_right _ (.tail _ hz)) (m2 z hz)
end
section
variable {w : World} {f : Addr} {dep : Nat} {wr news : List (Addr × Obj)} {vs : List Value} {p : Program} {loose : List Str} {mean : ExcName → Option Value} {mg mb : Str → Option Value} {dp un : Nat} {gd : Option (List Code)} {cn : Str} {cs : Scope} {a : Addr} {ccd : Value} {cl : List (Str × Addr)} {outer : List Env} {A₀ : Around} {base h₀ : Heap} {L : Addr} {m : Str → Option Value} {s : Shared} {Q E : Value → Shared → Prop}
theorem use_tab2_pair {i j : Int} {x y : Addr} {o1 ox o2 oy : Obj} {g1 : Obj → List (Addr × Obj)} {g2 : Obj → Obj → List (Addr × Obj)}
    (C : Core w f dep [(44, o1), (x, ox), (51, o2), (y, oy)] vs (tab2R x ox y oy (isPair i j))) (hs : ∀ p ∈ [(44, o1), (x, ox), (51, o2), (y, oy)], p ∈ news) (B : Below A₀ base outer h₀) (F : Fr h₀ L s.heap m) (X : (K w.params).In h₀) (N : News h₀ L s.heap news) (T : Top p loose mean mg mb h₀) (hk : cs.kind = .function) (hd : dp + dep < recursionLimit) (hu : un + 8 * dep < cLine)
    (U1 : UpdF 44 o1 news g1) (U2 : ∀ o', UpdF 51 o2 (g1 o') (g2 o'))
    (h : ∀ (T9 : Addr) (t9 u9 : Tok) x' ox' y' oy' h' tk', CodeOk q1 ox' → CodeOk q2 oy' → Fr h₀ L h' m → News h₀ L h' ((T9, ⟨.type "tuple", none, .seq #[.int i t9, .int j u9] 0, #[]⟩) :: ((x', ox') :: (y', oy') :: g2 (madeTab 44 80 4 x').2 (madeTab 51 95 4 y').2)) → (∀ p ∈ news, p.1 ≠ T9) →
      (@LT.lt Nat _ x' 44 ∨ @LT.lt Nat _ 44 x') → (@LT.lt Nat _ x' 51 ∨ @LT.lt Nat _ 51 x') → (@LT.lt Nat _ y' 44 ∨ @LT.lt Nat _ 44 y') → (@LT.lt Nat _ y' 51 ∨ @LT.lt Nat _ 51 y') → (∀ p ∈ news, p.1 ≠ x → p.1 ≠ y → p.1 ≠ x' ∧ p.1 ≠ y') → Q (.ref T9) { s with heap := h', toks := tk' }) : wpAny (model pgm w) (ktrTop dp un gd cn cs L a ccd cl outer) (call (.ref f) vs) Q E s :=
  use_tab2 C hs B F X N T hk hd hu U1 U2 fun r new x' ox' y' oy' h' tk' hR c8 c9 F' N' hf a1 a2 a3 a4 v9 => by
    obtain ⟨T9, t9, u9, rfl, rfl⟩ := hR
    exact h T9 t9 u9 x' ox' y' oy' h' tk'  c8 c9 F' N' (hf _ (.head _)) a1 a2 a3 a4 v9
end
end
section
theorem fill_ID : K = K ∧ PySem.Challenge.rw_sn0097_01 = PySem.Challenge.rw_sn0097_01 := by k_fill; exact ⟨rfl, rfl⟩
theorem r_invert {w : World} {A : Around} {E : Value → Shared → Prop} {s : Shared} {a : Int} {t : Tok} {Q : Value → Shared → Prop} (h : Q (.int (-a - 1) s.toks) { s with toks := s.toks + 1 }) : wpAny (model pgm w) A (unaryOp .Invert (.int a t)) Q E s := invert_int h
local macro_rules | `(tactic| walk_at "unaryOp Invert int") => `(tactic| (k_here; with_reducible refine r_invert ?_))
theorem fresh4n {D P x Q y : Addr} {o : Obj} {news : List (Addr × Obj)} (h : ∀ p ∈ news, p.1 ≠ D) {a b c d : Obj} (h1 : (P, a) ∈ news) (h2 : (x, b) ∈ news) (h3 : (Q, c) ∈ news) (h4 : (y, d) ∈ news) : ∀ q ∈ [(D, o)], q.1 ∉ [P, x, Q, y] := fun q hq k => by
  rw [List.mem_singleton] at hq
  subst hq
  simp only [List.mem_cons, List.not_mem_nil, or_false] at k
  rcases k with k | k | k | k
  · exact h _ h1 k.symm
  · exact h _ h2 k.symm
  · exact h _ h3 k.symm
  · exact h _ h4 k.symm
set_option maxHeartbeats 4000000 in
theorem c_idp (w : World) (a : Int) (ta tb : Tok) (ha : 0 ≤ a ∧ a < 256) (o1 : Obj) (x : Addr) (ox : Obj) (o2 : Obj) (y : Addr) (oy : Obj) (S1 : St 44 80 4 q1 o1 x ox) (S2 : St 51 95 4 q2 o2 y oy) (hx1 : @LT.lt Nat _ x 44 ∨ @LT.lt Nat _ 44 x) (hx2 : @LT.lt Nat _ x 51 ∨ @LT.lt Nat _ 51 x) (hy1 : @LT.lt Nat _ y 44 ∨ @LT.lt Nat _ 44 y) (hy2 : @LT.lt Nat _ y 51 ∨ @LT.lt Nat _ 51 y) :
    Core w 70 14 [(44, o1), (x, ox), (51, o2), (y, oy)] [.int a ta, .int 3 tb] (tab2R x ox y oy (isPair (a / 3) (a % 3))) := by
  first | k_dflt ((refine' core_plain ?zho ?zhcd ?zhb ?zhl ?zhdep ?zhcell ?zhco ?zhgen ?zhk ?_; (case zho => k_is); (case zhcd => k_is); (case zhcell => decide); (case zhb => exact fun _ => rfl); (case zhl => exact locs rfl); (case zhdep => decide); (case zhco => exact rfl); (case zhgen => exact rfl); (case zhk => exact rfl); k_whole)) | k_dflt ((refine' core_cells ?zho ?zhcd ?zhb ?zhki ?zhnd ?zhdep ?zhco ?zhgen ?zhk ?_; (case zho => k_is); (case zhcd => k_is); (case zhb => exact fun _ => rfl); (case zhki => exact rfl); (case zhnd => decide +kernel); (case zhdep => decide); (case zhco => exact rfl); (case zhgen => exact rfl); (case zhk => exact rfl); k_whole)) | fail "enter"
  intro p loose mean mg mb dp un gd cn cs a' ccd cl outer L base g L' s Qf Er F N hlt B X T hk hd hu hret
  k_lt hlt
  repeat' ((first | (k_unfold; (try dsimp only)) | (k_end; kc_close) | walk1 | (dsimp only; walk1) | (leave1; walk_say "STEP leave1"; (try dsimp only)) | fail "no step") <;> (repeat' (first
    | (refine Stk.mk (k := 1) ?_; with_reducible ((k_here; k_dflt (first | ((with_reducible show wpAny _ _ (call (Value.ref 63) _) _ _ _); (refine' use_tab2_pair (c_dp _ _ _ _ ?ha _ _ _ _ _ _ ?S ?S2 ?h1 ?h2 ?h3 ?h4) ?hs ?B ?F ?X ?N ?T ?hk ?hd ?hu ?U ?U2 ?_; (case S => with_reducible assumption); (case S2 => with_reducible assumption); (case N => k_asm); (case hs => exact subC (by k_mem) (subC (by k_mem) (subC (by k_mem) (subC (by k_mem) sub0)))); (case B => k_asm); (case F => k_asm); (case X => k_asm); (case T => k_asm); (case hk => first | exact rfl | assumption); (case hd => first | ktr_room | omega); (case hu => first | ktr_units | omega); (case ha => omega); (case h1 => omega); (case h2 => omega); (case h3 => omega); (case h4 => omega); (case U => k_updF); (case U2 => (intro o9'; (try dsimp only); k_updF))); (intro T9 t9 u9 x9 ox9 y9 oy9 h9 tk9 hC9 hD9 F9 N9 hf9 ho1 ho2 ho3 ho4 hv9); (try dsimp only [List.cons_append, List.nil_append] at N9); (have S8 := st_made (P := 44) (l := 80) (c := 4) (x := x9) hC9); (have S9 := st_made (P := 51) (l := 95) (c := 4) (x := y9) hD9); (have hw9 := hf9); (clear hf9))); (try dsimp only); (try k_fold)))))))
  (refine' hret _ ([(_, _)] ++ [_, (_, _), (x, ox), _, (_, _), (y, oy)]) _ _ _ ⟨[(_, _)], _, _, _, _, ?kp, ?c1, ?c2, rfl, ?kf, ⟨?o1, ?o2⟩, ?o3, ?o4⟩ ?F ?N; (case F => k_asm); (case c1 => with_reducible assumption); (case c2 => with_reducible assumption); (case N => exact news_sub (by k_asm) (subC (by k_mem) (subC (by k_mem) (subC (by k_mem) (subC (by k_mem) (subC (by k_mem) (subC (by k_mem) (subC (by k_mem) sub0)))))))); (case kp => exact mk_pair rfl rfl); (case kf => exact fresh4n (by assumption) (by k_mem) (by k_mem) (by k_mem) (by k_mem)); (case o1 => omega); (case o2 => omega); (case o3 => omega); (case o4 => omega))
set_option maxHeartbeats 4000000 in
theorem c_idn (w : World) (a : Int) (ta tb : Tok) (ha : -256 ≤ a ∧ a < 0) (o1 : Obj) (x : Addr) (ox : Obj) (o2 : Obj) (y : Addr) (oy : Obj) (S1 : St 44 80 4 q1 o1 x ox) (S2 : St 51 95 4 q2 o2 y oy) (hx1 : @LT.lt Nat _ x 44 ∨ @LT.lt Nat _ 44 x) (hx2 : @LT.lt Nat _ x 51 ∨ @LT.lt Nat _ 51 x) (hy1 : @LT.lt Nat _ y 44 ∨ @LT.lt Nat _ 44 y) (hy2 : @LT.lt Nat _ y 51 ∨ @LT.lt Nat _ 51 y) :
    Core w 70 16 [(44, o1), (x, ox), (51, o2), (y, oy)] [.int a ta, .int 3 tb] (tab2R x ox y oy (isPair (a / 3) (a % 3))) := by
  first | k_dflt ((refine' core_plain ?zho ?zhcd ?zhb ?zhl ?zhdep ?zhcell ?zhco ?zhgen ?zhk ?_; (case zho => k_is); (case zhcd => k_is); (case zhcell => decide); (case zhb => exact fun _ => rfl); (case zhl => exact locs rfl); (case zhdep => decide); (case zhco => exact rfl); (case zhgen => exact rfl); (case zhk => exact rfl); k_whole)) | k_dflt ((refine' core_cells ?zho ?zhcd ?zhb ?zhki ?zhnd ?zhdep ?zhco ?zhgen ?zhk ?_; (case zho => k_is); (case zhcd => k_is); (case zhb => exact fun _ => rfl); (case zhki => exact rfl); (case zhnd => decide +kernel); (case zhdep => decide); (case zhco => exact rfl); (case zhgen => exact rfl); (case zhk => exact rfl); k_whole)) | fail "enter"
  intro p loose mean mg mb dp un gd cn cs a' ccd cl outer L base g L' s Qf Er F N hlt B X T hk hd hu hret
  k_lt hlt
  repeat' ((first | (k_unfold; (try dsimp only)) | (k_end; kc_close) | walk1 | (dsimp only; walk1) | (leave1; walk_say "STEP leave1"; (try dsimp only)) | fail "no step") <;> (repeat' (first
    | (refine Stk.mk (k := 1) ?_; first | with_reducible ((k_here; k_dflt (first | ((with_reducible show wpAny _ _ (call (Value.ref 70) _) _ _ _); (refine' use_tab2_pair (c_idp _ _ _ _ ?ha _ _ _ _ _ _ ?S ?S2 ?h1 ?h2 ?h3 ?h4) ?hs ?B ?F ?X ?N ?T ?hk ?hd ?hu ?U ?U2 ?_; (case S => with_reducible assumption); (case S2 => with_reducible assumption); (case N => k_asm); (case hs => exact subC (by k_mem) (subC (by k_mem) (subC (by k_mem) (subC (by k_mem) sub0)))); (case B => k_asm); (case F => k_asm); (case X => k_asm); (case T => k_asm); (case hk => first | exact rfl | assumption); (case hd => first | ktr_room | omega); (case hu => first | ktr_units | omega); (case ha => omega); (case h1 => omega); (case h2 => omega); (case h3 => omega); (case h4 => omega); (case U => k_updF); (case U2 => (intro o9'; (try dsimp only); k_updF))); (intro T9 t9 u9 x9 ox9 y9 oy9 h9 tk9 hC9 hD9 F9 N9 hf9 ho1 ho2 ho3 ho4 hv9); (try dsimp only [List.cons_append, List.nil_append] at N9); (have S8 := st_made (P := 44) (l := 80) (c := 4) (x := x9) hC9); (have S9 := st_made (P := 51) (l := 95) (c := 4) (x := y9) hD9); (have hw9 := hf9); (clear hf9))); (try dsimp only); (try k_fold))) | with_reducible ((k_here; k_dflt (first | ((with_reducible show wpAny _ _ (call (Value.ref 63) _) _ _ _); (refine' use_tab2_pair (c_dp _ _ _ _ ?ha _ _ _ _ _ _ ?S ?S2 ?h1 ?h2 ?h3 ?h4) ?hs ?B ?F ?X ?N ?T ?hk ?hd ?hu ?U ?U2 ?_; (case S => with_reducible assumption); (case S2 => with_reducible assumption); (case N => k_asm); (case hs => exact subC (by k_mem) (subC (by k_mem) (subC (by k_mem) (subC (by k_mem) sub0)))); (case B => k_asm); (case F => k_asm); (case X => k_asm); (case T => k_asm); (case hk => first | exact rfl | assumption); (case hd => first | ktr_room | omega); (case hu => first | ktr_units | omega); (case ha => omega); (case h1 => omega); (case h2 => omega); (case h3 => omega); (case h4 => omega); (case U => k_updF); (case U2 => (intro o9'; (try dsimp only); k_updF))); (intro T9 t9 u9 x9 ox9 y9 oy9 h9 tk9 hC9 hD9 F9 N9 hf9 ho1 ho2 ho3 ho4 hv9); (try dsimp only [List.cons_append, List.nil_append] at N9); (have S8 := st_made (P := 44) (l := 80) (c := 4) (x := x9) hC9); (have S9 := st_made (P := 51) (l := 95) (c := 4) (x := y9) hD9); (have hw9 := hf9); (clear hf9))); (try dsimp only); (try k_fold)))))))
  (refine' hret _ ([(_, _)] ++ [_, (_, _), (x, ox), _, (_, _), (y, oy)]) _ _ _ ⟨[(_, _)], _, _, _, _, ?kp, ?c1, ?c2, rfl, ?kf, ⟨?o1, ?o2⟩, ?o3, ?o4⟩ ?F ?N; (case F => k_asm); (case c1 => with_reducible assumption); (case c2 => with_reducible assumption); (case N => exact news_sub (by k_asm) (subC (by k_mem) (subC (by k_mem) (subC (by k_mem) (subC (by k_mem) (subC (by k_mem) (subC (by k_mem) (subC (by k_mem) sub0)))))))); (case kp => exact mk_pair (by omega) (by omega)); (case kf => exact fresh4 (by omega) (by omega) (by omega) (by omega)); (case o1 => omega); (case o2 => omega); (case o3 => omega); (case o4 => omega))
theorem c_id (w : World) (a : Int) (ta tb : Tok) (ha : -256 ≤ a ∧ a < 256) (o1 : Obj) (x : Addr) (ox : Obj) (o2 : Obj) (y : Addr) (oy : Obj) (S1 : St 44 80 4 q1 o1 x ox) (S2 : St 51 95 4 q2 o2 y oy) (hx1 : @LT.lt Nat _ x 44 ∨ @LT.lt Nat _ 44 x) (hx2 : @LT.lt Nat _ x 51 ∨ @LT.lt Nat _ 51 x) (hy1 : @LT.lt Nat _ y 44 ∨ @LT.lt Nat _ 44 y) (hy2 : @LT.lt Nat _ y 51 ∨ @LT.lt Nat _ 51 y) :
    Core w 70 16 [(44, o1), (x, ox), (51, o2), (y, oy)] [.int a ta, .int 3 tb] (tab2R x ox y oy (isPair (a / 3) (a % 3))) := by
  by_cases h0 : a < 0
  · exact c_idn w a ta tb ⟨ha.1, h0⟩ o1 x ox o2 y oy S1 S2 hx1 hx2 hy1 hy2
  · exact core_dep (c_idp w a ta tb ⟨by omega, ha.2⟩ o1 x ox o2 y oy S1 S2 hx1 hx2 hy1 hy2) (by decide)
end
end
section
open PySem PySem.W PyProof.Rows PySem.Calls PySem.Spec PyProof.Rows.LCg PyProof.Rows.LCt
/-- a list comprehension with one test over a text -/
noncomputable def CompSrcS (prog : Program) (w : World) (A : Around) (h₀ : Heap) (L : Addr) (m : Str → Option Value) (env : Env) (ct elt : Expr) (x : Str) (scope : Scope) (cl : List (Str × Addr)) (Fin : Shared → List Value → List (Addr × Obj) → Prop) (xv : Value) (s₁ : Shared) : Prop :=
  ∃ (y : Str) (t : Tok) (news : List (Addr × Obj)), xv = .str y t ∧ A.handled = none ∧ Fr h₀ L s₁.heap m ∧ News h₀ L s₁.heap news ∧ y.cps.size ≤ sizeLine ∧
    ∀ s₂ : Shared, (∃ h, s₂ = { s₁ with heap := h }) → CompRestT prog w A h₀ L m env ct elt x scope cl s₂ (fun _ => True) (SignAt y) (Fin s₂) y.cps.size 0 [] news
section
variable {prog : Program} {w : World} {A : Around} {E : Value → Shared → Prop} {s : Shared} {h₀ : Heap} {L : Addr} {m : Str → Option Value} {env : Env}
theorem CompSrcS.mk {ct elt : Expr} {x : Str} {scope : Scope} {cl : List (Str × Addr)} {Fin : Shared → List Value → List (Addr × Obj) → Prop} {y : Str} {t : Tok} {n : Nat} {news : List (Addr × Obj)} {s₁ : Shared} (hn : y.cps.size = n)
    (hh : A.handled = none) (F : Fr h₀ L s₁.heap m) (N : News h₀ L s₁.heap news) (hsz : n ≤ 1000)
    (h : ∀ g, CompRestT prog w A h₀ L m env ct elt x scope cl { s₁ with heap := g } (fun _ => True) (SignAt y) (Fin { s₁ with heap := g }) n 0 [] news) :
    CompSrcS prog w A h₀ L m env ct elt x scope cl Fin (.str y t) s₁ := by
  subst hn
  exact ⟨y, t, news, rfl, hh, F, N, Nat.le_trans hsz (by rw [sizeLine_eq]; exact Nat.le_of_ble_eq_true rfl), fun _ ⟨g, e⟩ => e ▸ h g⟩
theorem pyIter_strT {x : Str} {t : Tok} {Q : Value → Shared → Prop} (hh : A.handled = none)
    (hQ : ∀ (T : String) (o : Obj), Walks prog w A s.heap.objs.size [s.heap.objs.size] [s.heap.objs.size] x.cps.size (SignAt x) (fun i h => h.IsStrIter s.heap.objs.size T x t i) → (s.heap.push o).IsStrIter s.heap.objs.size T x t 0 →
      Q (.ref s.heap.objs.size) { s with heap := s.heap.push o }) : wpAny (model prog w) A (pyIter (.str x t)) Q E s := by
  cases ha : x.cps.all (· < 128)
  · exact wpAny_pyIter_wide ha (hQ _ _ (Walks.strWide hh _ x t) ⟨_, Heap.get?_push_size _ rfl, rfl, rfl⟩)
  · exact wpAny_pyIter_ascii ha (hQ _ _ (Walks.strAscii hh _ x t) ⟨_, Heap.get?_push_size _ rfl, rfl, rfl⟩)
theorem ListComp_S {ct elt iter : Expr} {x : Str} {px : Pos} {scope : Scope} {cl : List (Str × Addr)} {pos : Pos} {Q : Value → Shared → Prop} (F₀ : Fr h₀ L s.heap m)
    (hclos : closureFor scope env = pure cl) (hcell : ∀ y ∈ scope.names, y.2 ≠ .cell) (hkind : scope.kind = .function)
    (hnames : ∀ y ∈ scope.names, y.2 = .local → scope.names.lookup y.1 = some .local) (hx : scope.names.lookup x = some .local)
    (h : wpAny (model prog w) A (eval iter env) (CompSrcS prog w A h₀ L m env ct elt x scope cl (fun s₂ => FinE h₀ L m s₂ Q)) E s)
    (hs : ∀ x, foldedSetIterable iter env x = pure x := by intro _; rfl) :
    wpAny (model prog w) A (eval (.ListComp elt [⟨.Name x px, iter, [ct], 0⟩] scope pos) env) Q E s := by
  rw [eval_ListComp]
  refine wpAny_comprehension_free (use := none) rfl hs hclos hkind hnames (wpAny_mono h (fun xv s₁ h₁ => ?_) fun _ _ e => e)
  obtain ⟨y, t, news, rfl, hh, F, N, hsz, R⟩ := h₁
  refine pyIter_strT hh fun T o W hst => ?_
  have up : ∀ b q, s₁.heap.get? b = some q → (s₁.heap.push o).get? b = some q := fun b q e => Heap.get?_push_of_some _ e
  refine block_T W hsz (fun i h st => let ⟨o, e, _⟩ := st; ⟨o, e⟩) (fun i h h' o nw st e e' _ _ _ => ?_) hcell hkind hx hst (fun b hb => ?_)
    (F.keeps up) (N.grown up) (Nat.ne_of_lt F.ns.lt) (next_is_new F) (fun p hp => Nat.ne_of_lt (Heap.lt_size (N p hp).1)) trivial (R _ ⟨_, rfl⟩) ?_
  · obtain ⟨o', q, r⟩ := st
    rw [e] at q; cases q
    exact ⟨o, e', r⟩
  · rw [List.mem_singleton.mp hb]
    show s₁.heap.objs.size < (s₁.heap.push _).objs.size
    rw [Heap.size_push]; exact Nat.lt_succ_self _
  · intro D C h tk m' ys news' F' N' o1 hn hC₀ hD₀ hCL hDL hCD offC fin
    refine ⟨m', hn, fun h'' hs'' => fin D h'' tk (F'.change hs'' hCL hC₀) (fun p hp => ?_) o1⟩
    refine ⟨hs''.extBut _ _ ?_ (N' p hp).1, (N' p hp).2⟩
    rcases List.mem_cons.mp hp with rfl | hp
    · exact Ne.symm hCD
    · exact offC p hp
theorem Assign_ListComp_S {ct elt iter : Expr} {x y : Str} {px py : Pos} {scope : Scope} {cl : List (Str × Addr)} {pos spos : Pos} {Q : Flow → Shared → Prop} (F₀ : Fr h₀ L s.heap m) (hLe : env.locals = L)
    (hsw : swapsWith (.ListComp elt [⟨.Name x px, iter, [ct], 0⟩] scope pos) (some (.Name y py)) spos.line env = pure true)
    (hclos : closureFor scope env = pure cl) (hcell : ∀ z ∈ scope.names, z.2 ≠ .cell) (hkind : scope.kind = .function)
    (hnames : ∀ z ∈ scope.names, z.2 = .local → scope.names.lookup z.1 = some .local) (hx : scope.names.lookup x = some .local)
    (hy : env.kindOf y = some .local) (hp : (env.scope.kind == .class || (env.scope.kind == .module && env.locals != env.globals)) = false)
    (h : wpAny (model prog w) A (eval iter env) (CompSrcS prog w A h₀ L m env ct elt x scope cl (fun s₂ => FinA h₀ L m s₂ y Q)) E s)
    (hs : ∀ x, foldedSetIterable iter env x = pure x := by intro _; rfl) :
    wpAny (model prog w) A (exec (.Assign [.Name y py] (.ListComp elt [⟨.Name x px, iter, [ct], 0⟩] scope pos) spos) env) Q E s := by
  subst hLe
  rw [exec_Assign_Name_used _ _ _ _ hsw]
  refine wpAny_bind (wpAny_standAt (wpAny_bind ?_))
  show wpAny _ A (do let _ ← comprehension (.ListComp elt [⟨.Name x px, iter, [ct], 0⟩] scope pos) scope env _ (newList []) false (eval iter env) (some (assign (.Name y py) env))) _ _ s
  refine wpAny_bind (wpAny_mono (wpAny_comprehension_free (use := some (assign (.Name y py) env)) (Q := fun _ s' => Q .next s') rfl hs hclos hkind hnames
    (wpAny_mono h (fun xv s₁ h₁ => ?_) fun _ _ e => e)) (fun _ s' hq => wpAny_pure (wpAny_pure hq)) fun _ _ e => e)
  obtain ⟨y', t, news, rfl, hh, F, N, hsz, R⟩ := h₁
  refine pyIter_strT hh fun T o W hst => ?_
  have up : ∀ b q, s₁.heap.get? b = some q → (s₁.heap.push o).get? b = some q := fun b q e => Heap.get?_push_of_some _ e
  refine block_T W hsz (fun i h st => let ⟨o, e, _⟩ := st; ⟨o, e⟩) (fun i h h' o nw st e e' _ _ _ => ?_) hcell hkind hx hst (fun b hb => ?_)
    (F.keeps up) (N.grown up) (Nat.ne_of_lt F.ns.lt) (next_is_new F) (fun p hp => Nat.ne_of_lt (Heap.lt_size (N p hp).1)) trivial (R _ ⟨_, rfl⟩) ?_
  · obtain ⟨o', q, r⟩ := st
    rw [e] at q; cases q
    exact ⟨o, e', r⟩
  · rw [List.mem_singleton.mp hb]
    show s₁.heap.objs.size < (s₁.heap.push _).objs.size
    rw [Heap.size_push]; exact Nat.lt_succ_self _
  · intro D C h' tk m' ys news' F' N' o1 hn hC₀ hD₀ hCL hDL hCD offC fin
    show wpAny _ A (assign (.Name y py) env (.ref D)) _ _ _
    refine wpAny_assign_Name (wpAny_storeName_local hy F'.ns (fun h₂ hn₂ hs₂ => ?_) hp)
    have hL₀ : h₀.get? env.locals = none := Heap.get?_none_of_le F'.above
    have F₂ : Fr h₀ env.locals h₂ (fun z => if z = y then some (.ref D) else m z) := ⟨hn₂, fun b o e => hs₂.extBut b o (fun q => by rw [q, hL₀] at e; cases e) (F'.keep b o e), F'.above⟩
    refine ⟨m', hn.sameBut hs₂ hCL, fun h'' hs'' => fin D h'' _ (F₂.change hs'' hCL hC₀) (fun p hp => ?_) o1⟩
    have z : h₂.get? p.1 = some p.2 := hs₂.extBut _ _ (N' p hp).2.1 (N' p hp).1
    refine ⟨hs''.extBut _ _ ?_ z, (N' p hp).2⟩
    rcases List.mem_cons.mp hp with rfl | hp
    · exact Ne.symm hCD
    · exact offC p hp
end
theorem sign_0 {x : Array Nat} {c : Nat} {v : Value} {i : Nat} (h : SignAt ⟨x⟩ i v) (e : x[i]? = some c) : ∃ u, v = .str ⟨#[c]⟩ u := by
  obtain ⟨d, u, hd, rfl⟩ := h
  have hd : x[i]? = some d := hd
  rw [e] at hd
  cases hd
  exact ⟨u, rfl⟩
theorem sign3_0 {P : Prop} {a b c i : Nat} {v : Value} (h : SignAt ⟨#[a, b, c]⟩ i v) (e : i = 0) (k : ∀ u, v = .str ⟨#[a]⟩ u → P) : P := by subst e; obtain ⟨u, hu⟩ := sign_0 h rfl; exact k u hu
theorem sign3_1 {P : Prop} {a b c i : Nat} {v : Value} (h : SignAt ⟨#[a, b, c]⟩ i v) (e : i = 1) (k : ∀ u, v = .str ⟨#[b]⟩ u → P) : P := by subst e; obtain ⟨u, hu⟩ := sign_0 h rfl; exact k u hu
theorem sign3_2 {P : Prop} {a b c i : Nat} {v : Value} (h : SignAt ⟨#[a, b, c]⟩ i v) (e : i = 2) (k : ∀ u, v = .str ⟨#[c]⟩ u → P) : P := by subst e; obtain ⟨u, hu⟩ := sign_0 h rfl; exact k u hu
end
section
theorem fill_Let : K = K ∧ PySem.Challenge.rw_sn0097_01 = PySem.Challenge.rw_sn0097_01 := by k_fill; exact ⟨rfl, rfl⟩
local macro_rules | `(tactic| k_room) => `(tactic| (ktr_room))
set_option maxHeartbeats 4000000 in
theorem c_let3 (w : World) (a b c : Nat) (tx : Tok) (ha : isLetter a = true) (hb : isLetter b = true) (hc : isLetter c = true) : Spec w 178 5 [] [.str ⟨#[a, b, c]⟩ tx] (isStr ⟨#[lowL a, lowL b, lowL c]⟩) := by
  first | k_dflt ((refine' core_plain ?zho ?zhcd ?zhb ?zhl ?zhdep ?zhcell ?zhco ?zhgen ?zhk ?_; (case zho => k_is); (case zhcd => k_is); (case zhcell => decide); (case zhb => exact fun _ => rfl); (case zhl => exact locs rfl); (case zhdep => decide); (case zhco => exact rfl); (case zhgen => exact rfl); (case zhk => exact rfl); k_whole)) | k_dflt ((refine' core_cells ?zho ?zhcd ?zhb ?zhki ?zhnd ?zhdep ?zhco ?zhgen ?zhk ?_; (case zho => k_is); (case zhcd => k_is); (case zhb => exact fun _ => rfl); (case zhki => exact rfl); (case zhnd => decide +kernel); (case zhdep => decide); (case zhco => exact rfl); (case zhgen => exact rfl); (case zhk => exact rfl); k_whole)) | fail "enter"
  intro p loose mean mg mb dp un gd cn cs a' ccd cl outer L base g L' s Qf Er F N hlt B X T hk hd hu hret
  repeat' ((first | (k_unfold; (try dsimp only)) | (k_end; kc_close) | walk1 | (dsimp only; walk1) | (leave1; walk_say "STEP leave1"; (try dsimp only)) | fail "no step") <;> (repeat' (first
    | (refine Stk.mk (k := 15) ?_; with_reducible ((k_here; lct_look; k_dflt (refine ListComp_S (F₀ := by k_asm) (by with_unfolding_all rfl) (by decide) (by rfl) (by decide) (by rfl) ?_))))
    | (refine Stk.mk (k := 18) ?_; with_reducible ((k_here; k_dflt (first | (refine CompSrcS.mk (n := 3) (by rfl) (by rfl) (by k_asm) (by k_asm) (by decide) ?_; intro g') | (refine CompSrcS.mk (n := 2) (by rfl) (by rfl) (by k_asm) (by k_asm) (by decide) ?_; intro g')))))
    | (refine Stk.mk (k := 19) ?_; with_reducible ((with_unfolding_all first | (refine LCt.CompRestT.succ ?_; intro v' I' oI' C' oC' D' m' h' tk' E' hv' hC' hx' F' N' off' ne'; (first | ((refine' sign3_0 hv' ?e0 ?_); (case e0 => decide)) | ((refine' sign3_1 hv' ?e0 ?_); (case e0 => decide)) | ((refine' sign3_2 hv' ?e0 ?_); (case e0 => decide)) | ((refine' sign2_0 hv' ?e0 ?_); (case e0 => decide)) | ((refine' sign2_1 hv' ?e0 ?_); (case e0 => decide))); (intro t9' hv9'); (subst hv9'); (clear hv'); (try simp only [LCg.Off3, and_true] at off')) | refine LCt.CompRestT.zero ?_)))
    | (refine Stk.mk (k := 1) ?_; with_reducible ((k_here; k_dflt (first | ((with_reducible show wpAny _ _ (call (Value.ref 115) _) _ _ _); (refine' use_bool (c_b1 _ _ _ false (b1_letter ?hl)) ?hs ?B ?F ?X ?N ?T ?hk ?hd ?hu ?_; (case hl => with_reducible assumption); (case N => k_asm); (case hs => exact sub0); (case B => k_asm); (case F => k_asm); (case X => k_asm); (case T => k_asm); (case hk => first | exact rfl | assumption); (case hd => first | ktr_room | omega); (case hu => first | ktr_units | omega)); (intro h9 tk9 F9 N9)) | ((with_reducible show wpAny _ _ (call (Value.ref 115) _) _ _ _); (refine' use_bool (c_b1 _ _ _ true (b1_veil ?hl)) ?hs ?B ?F ?X ?N ?T ?hk ?hd ?hu ?_; (case hl => with_reducible assumption); (case N => k_asm); (case hs => exact sub0); (case B => k_asm); (case F => k_asm); (case X => k_asm); (case T => k_asm); (case hk => first | exact rfl | assumption); (case hd => first | ktr_room | omega); (case hu => first | ktr_units | omega)); (intro h9 tk9 F9 N9)) | ((with_reducible show wpAny _ _ (call (Value.ref 161) _) _ _ _); (refine' use_str (c_b3 _ _ _ ?hl) ?hs ?B ?F ?X ?N ?T ?hk ?hd ?hu ?_; (case hl => with_reducible assumption); (case N => k_asm); (case hs => exact sub0); (case B => k_asm); (case F => k_asm); (case X => k_asm); (case T => k_asm); (case hk => first | exact rfl | assumption); (case hd => first | ktr_room | omega); (case hu => first | ktr_units | omega)); (intro t9 h9 tk9 F9 N9))); (try dsimp only); (try k_fold)))))))
  exact hret _ _ _ _ _ (of_str rfl) (by k_asm) (news_sub (by k_asm) sub0)
set_option maxHeartbeats 4000000 in
theorem c_let2 (w : World) (a b c : Nat) (tx : Tok) (ha : isLetter a = true) (hb : isVeil b = true) (hc : isLetter c = true) : Spec w 178 5 [] [.str ⟨#[a, b, c]⟩ tx] (isStr ⟨#[lowL a, lowL c]⟩) := by
  first | k_dflt ((refine' core_plain ?zho ?zhcd ?zhb ?zhl ?zhdep ?zhcell ?zhco ?zhgen ?zhk ?_; (case zho => k_is); (case zhcd => k_is); (case zhcell => decide); (case zhb => exact fun _ => rfl); (case zhl => exact locs rfl); (case zhdep => decide); (case zhco => exact rfl); (case zhgen => exact rfl); (case zhk => exact rfl); k_whole)) | k_dflt ((refine' core_cells ?zho ?zhcd ?zhb ?zhki ?zhnd ?zhdep ?zhco ?zhgen ?zhk ?_; (case zho => k_is); (case zhcd => k_is); (case zhb => exact fun _ => rfl); (case zhki => exact rfl); (case zhnd => decide +kernel); (case zhdep => decide); (case zhco => exact rfl); (case zhgen => exact rfl); (case zhk => exact rfl); k_whole)) | fail "enter"
  intro p loose mean mg mb dp un gd cn cs a' ccd cl outer L base g L' s Qf Er F N hlt B X T hk hd hu hret
  repeat' ((first | (k_unfold; (try dsimp only)) | (k_end; kc_close) | walk1 | (dsimp only; walk1) | (leave1; walk_say "STEP leave1"; (try dsimp only)) | fail "no step") <;> (repeat' (first
    | (refine Stk.mk (k := 15) ?_; with_reducible ((k_here; lct_look; k_dflt (refine ListComp_S (F₀ := by k_asm) (by with_unfolding_all rfl) (by decide) (by rfl) (by decide) (by rfl) ?_))))
    | (refine Stk.mk (k := 18) ?_; with_reducible ((k_here; k_dflt (first | (refine CompSrcS.mk (n := 3) (by rfl) (by rfl) (by k_asm) (by k_asm) (by decide) ?_; intro g') | (refine CompSrcS.mk (n := 2) (by rfl) (by rfl) (by k_asm) (by k_asm) (by decide) ?_; intro g')))))
    | (refine Stk.mk (k := 19) ?_; with_reducible ((with_unfolding_all first | (refine LCt.CompRestT.succ ?_; intro v' I' oI' C' oC' D' m' h' tk' E' hv' hC' hx' F' N' off' ne'; (first | ((refine' sign3_0 hv' ?e0 ?_); (case e0 => decide)) | ((refine' sign3_1 hv' ?e0 ?_); (case e0 => decide)) | ((refine' sign3_2 hv' ?e0 ?_); (case e0 => decide)) | ((refine' sign2_0 hv' ?e0 ?_); (case e0 => decide)) | ((refine' sign2_1 hv' ?e0 ?_); (case e0 => decide))); (intro t9' hv9'); (subst hv9'); (clear hv'); (try simp only [LCg.Off3, and_true] at off')) | refine LCt.CompRestT.zero ?_)))
    | (refine Stk.mk (k := 1) ?_; with_reducible ((k_here; k_dflt (first | ((with_reducible show wpAny _ _ (call (Value.ref 115) _) _ _ _); (refine' use_bool (c_b1 _ _ _ false (b1_letter ?hl)) ?hs ?B ?F ?X ?N ?T ?hk ?hd ?hu ?_; (case hl => with_reducible assumption); (case N => k_asm); (case hs => exact sub0); (case B => k_asm); (case F => k_asm); (case X => k_asm); (case T => k_asm); (case hk => first | exact rfl | assumption); (case hd => first | ktr_room | omega); (case hu => first | ktr_units | omega)); (intro h9 tk9 F9 N9)) | ((with_reducible show wpAny _ _ (call (Value.ref 115) _) _ _ _); (refine' use_bool (c_b1 _ _ _ true (b1_veil ?hl)) ?hs ?B ?F ?X ?N ?T ?hk ?hd ?hu ?_; (case hl => with_reducible assumption); (case N => k_asm); (case hs => exact sub0); (case B => k_asm); (case F => k_asm); (case X => k_asm); (case T => k_asm); (case hk => first | exact rfl | assumption); (case hd => first | ktr_room | omega); (case hu => first | ktr_units | omega)); (intro h9 tk9 F9 N9)) | ((with_reducible show wpAny _ _ (call (Value.ref 161) _) _ _ _); (refine' use_str (c_b3 _ _ _ ?hl) ?hs ?B ?F ?X ?N ?T ?hk ?hd ?hu ?_; (case hl => with_reducible assumption); (case N => k_asm); (case hs => exact sub0); (case B => k_asm); (case F => k_asm); (case X => k_asm); (case T => k_asm); (case hk => first | exact rfl | assumption); (case hd => first | ktr_room | omega); (case hu => first | ktr_units | omega)); (intro t9 h9 tk9 F9 N9))); (try dsimp only); (try k_fold)))))))
  exact hret _ _ _ _ _ (of_str rfl) (by k_asm) (news_sub (by k_asm) sub0)
end
section
/-! facts of addresses that omega is not to see -/
theorem toNe {a b : Addr} (h : @LT.lt Nat _ a b ∨ @LT.lt Nat _ b a) : a ≠ b := fun e => by
  have e : @Eq Nat a b := e
  omega
theorem ofNe {a b : Addr} (h : a ≠ b) : @LT.lt Nat _ a b ∨ @LT.lt Nat _ b a := Nat.lt_or_gt_of_ne h
theorem ne_l {news : List (Addr × Obj)} {x a : Addr} {o : Obj} (h : ∀ p ∈ news, p.1 ≠ x) (hm : (a, o) ∈ news) : a ≠ x := h _ hm
theorem ne_x {news : List (Addr × Obj)} {x y x' a : Addr} {o : Obj} (h : ∀ p ∈ news, p.1 ≠ x → p.1 ≠ y → p.1 ≠ x') (hm : (a, o) ∈ news) (h1 : a ≠ x) (h2 : a ≠ y) : a ≠ x' := h _ hm h1 h2
section
variable {w : World} {f : Addr} {dep : Nat} {wr news : List (Addr × Obj)} {vs : List Value} {p : Program} {loose : List Str} {mean : ExcName → Option Value} {mg mb : Str → Option Value} {dp un : Nat} {gd : Option (List Code)} {cn : Str} {cs : Scope} {a : Addr} {ccd : Value} {cl : List (Str × Addr)} {outer : List Env} {A₀ : Around} {base h₀ : Heap} {L : Addr} {m : Str → Option Value} {s : Shared} {Q E : Value → Shared → Prop}
/-- the use of a contract over both code tables: what it gives stands as facts that omega does not see -/
theorem use_two {x y : Addr} {o1 ox o2 oy : Obj} {R : Value → List (Addr × Obj) → Prop} {g1 : Obj → List (Addr × Obj)} {g2 : Obj → Obj → List (Addr × Obj)}
    (C : Core w f dep [(44, o1), (x, ox), (51, o2), (y, oy)] vs (tab2R x ox y oy R)) (hs : ∀ p ∈ [(44, o1), (x, ox), (51, o2), (y, oy)], p ∈ news) (B : Below A₀ base outer h₀) (F : Fr h₀ L s.heap m) (X : (K w.params).In h₀) (N : News h₀ L s.heap news) (T : Top p loose mean mg mb h₀) (hk : cs.kind = .function) (hd : dp + dep < recursionLimit) (hu : un + 8 * dep < cLine)
    (U1 : UpdF 44 o1 news g1) (U2 : ∀ o', UpdF 51 o2 (g1 o') (g2 o'))
    (h : ∀ r new x' ox' y' oy' h' tk', R r new → St 44 80 4 q1 (madeTab 44 80 4 x').2 x' ox' → St 51 95 4 q2 (madeTab 51 95 4 y').2 y' oy' → CodeOk q1 ox' → CodeOk q2 oy' → Fr h₀ L h' m → News h₀ L h' (new ++ ((x', ox') :: (y', oy') :: g2 (madeTab 44 80 4 x').2 (madeTab 51 95 4 y').2)) → (∀ q ∈ new, ∀ p ∈ news, p.1 ≠ q.1) →
      x' ≠ 44 → x' ≠ 51 → y' ≠ 44 → y' ≠ 51 → (∀ p ∈ news, p.1 ≠ x → p.1 ≠ y → p.1 ≠ x') → (∀ p ∈ news, p.1 ≠ x → p.1 ≠ y → p.1 ≠ y') → Q r { s with heap := h', toks := tk' }) : wpAny (model pgm w) (ktrTop dp un gd cn cs L a ccd cl outer) (call (.ref f) vs) Q E s :=
  use_tab2 C hs B F X N T hk hd hu U1 U2 fun r new x' ox' y' oy' h' tk' hR c1 c2 F' N' hf a1 a2 a3 a4 hv =>
    h r new x' ox' y' oy' h' tk' hR (st_made c1) (st_made c2) c1 c2 F' N' hf (toNe a1) (toNe a2) (toNe a3) (toNe a4) (fun p hp e1 e2 => (hv p hp e1 e2).1) (fun p hp e1 e2 => (hv p hp e1 e2).2)
/-- the same over one table -/
theorem use_one {P x : Addr} {l c : Nat} {qn : Str} {o ox : Obj} {R : Value → List (Addr × Obj) → Prop} {g : Obj → List (Addr × Obj)} (C : Core w f dep [(P, o), (x, ox)] vs (tabR P l c qn x ox R)) (hs : ∀ p ∈ [(P, o), (x, ox)], p ∈ news) (B : Below A₀ base outer h₀) (F : Fr h₀ L s.heap m) (X : (K w.params).In h₀) (N : News h₀ L s.heap news) (T : Top p loose mean mg mb h₀) (hk : cs.kind = .function) (hd : dp + dep < recursionLimit) (hu : un + 8 * dep < cLine)
    (U : UpdF P o news g)
    (h : ∀ r new x' ox' h' tk', R r new → St P l c qn (madeTab P l c x').2 x' ox' → CodeOk qn ox' → Fr h₀ L h' m → News h₀ L h' (new ++ ((x', ox') :: g (madeTab P l c x').2)) → (∀ q ∈ new, ∀ p ∈ news, p.1 ≠ q.1) → x' ≠ P → (∀ p ∈ news, p.1 ≠ x → p.1 ≠ x → p.1 ≠ x') → Q r { s with heap := h', toks := tk' }) : wpAny (model pgm w) (ktrTop dp un gd cn cs L a ccd cl outer) (call (.ref f) vs) Q E s :=
  use_tab (tab_kept C) hs B F X N T hk hd hu U fun r new x' ox' h' tk' hR c1 F' N' hf a1 hv =>
    h r new x' ox' h' tk' hR (st_made c1) c1 F' N' hf (toNe a1) fun p hp e1 _ => hv p hp e1 fun _ h => nomatch h
/-- the same over one table, by a list that the call looks at -/
theorem use_oneK {P x : Addr} {l c : Nat} {qn : Str} {o ox : Obj} {lk : Addr × Obj} {R : Value → List (Addr × Obj) → Prop} {g : Obj → List (Addr × Obj)} (C : Core w f dep [lk, (P, o), (x, ox)] vs (tabRK P l c qn x ox [lk] R)) (hs : ∀ p ∈ [lk, (P, o), (x, ox)], p ∈ news) (B : Below A₀ base outer h₀) (F : Fr h₀ L s.heap m) (X : (K w.params).In h₀) (N : News h₀ L s.heap news) (T : Top p loose mean mg mb h₀) (hk : cs.kind = .function) (hd : dp + dep < recursionLimit) (hu : un + 8 * dep < cLine)
    (U : UpdF P o news g)
    (h : ∀ r new x' ox' h' tk', R r new → St P l c qn (madeTab P l c x').2 x' ox' → CodeOk qn ox' → Fr h₀ L h' m → News h₀ L h' (new ++ ((x', ox') :: g (madeTab P l c x').2)) → (∀ q ∈ new, ∀ p ∈ news, p.1 ≠ q.1) → x' ≠ P → (∀ p ∈ news, p.1 ≠ x → p.1 ≠ lk.1 → p.1 ≠ x') → Q r { s with heap := h', toks := tk' }) : wpAny (model pgm w) (ktrTop dp un gd cn cs L a ccd cl outer) (call (.ref f) vs) Q E s :=
  use_tab (kept := [lk]) C hs B F X N T hk hd hu U fun r new x' ox' h' tk' hR c1 F' N' hf a1 hv =>
    h r new x' ox' h' tk' hR (st_made c1) c1 F' N' hf (toNe a1) fun p hp e1 e2 => hv p hp e1 fun k hk => by rw [List.mem_singleton] at hk; subst hk; exact e2
end
section
variable {w : World} {f : Addr} {dep : Nat} {wr news : List (Addr × Obj)} {vs : List Value} {p : Program} {loose : List Str} {mean : ExcName → Option Value} {mg mb : Str → Option Value} {dp un : Nat} {gd : Option (List Code)} {cn : Str} {cs : Scope} {a : Addr} {ccd : Value} {cl : List (Str × Addr)} {outer : List Env} {A₀ : Around} {base h₀ : Heap} {L : Addr} {m : Str → Option Value} {s : Shared} {Q E : Value → Shared → Prop}
theorem use_two_pair {i j : Int} {x y : Addr} {o1 ox o2 oy : Obj} {g1 : Obj → List (Addr × Obj)} {g2 : Obj → Obj → List (Addr × Obj)}
    (C : Core w f dep [(44, o1), (x, ox), (51, o2), (y, oy)] vs (tab2R x ox y oy (isPair i j))) (hs : ∀ p ∈ [(44, o1), (x, ox), (51, o2), (y, oy)], p ∈ news) (B : Below A₀ base outer h₀) (F : Fr h₀ L s.heap m) (X : (K w.params).In h₀) (N : News h₀ L s.heap news) (T : Top p loose mean mg mb h₀) (hk : cs.kind = .function) (hd : dp + dep < recursionLimit) (hu : un + 8 * dep < cLine)
    (U1 : UpdF 44 o1 news g1) (U2 : ∀ o', UpdF 51 o2 (g1 o') (g2 o'))
    (h : ∀ (T9 : Addr) (t9 u9 : Tok) x' ox' y' oy' h' tk', St 44 80 4 q1 (madeTab 44 80 4 x').2 x' ox' → St 51 95 4 q2 (madeTab 51 95 4 y').2 y' oy' → CodeOk q1 ox' → CodeOk q2 oy' → Fr h₀ L h' m → News h₀ L h' ((T9, ⟨.type "tuple", none, .seq #[.int i t9, .int j u9] 0, #[]⟩) :: ((x', ox') :: (y', oy') :: g2 (madeTab 44 80 4 x').2 (madeTab 51 95 4 y').2)) → (∀ p ∈ news, p.1 ≠ T9) →
      x' ≠ 44 → x' ≠ 51 → y' ≠ 44 → y' ≠ 51 → (∀ p ∈ news, p.1 ≠ x → p.1 ≠ y → p.1 ≠ x') → (∀ p ∈ news, p.1 ≠ x → p.1 ≠ y → p.1 ≠ y') → Q (.ref T9) { s with heap := h', toks := tk' }) : wpAny (model pgm w) (ktrTop dp un gd cn cs L a ccd cl outer) (call (.ref f) vs) Q E s :=
  use_two C hs B F X N T hk hd hu U1 U2 fun r new x' ox' y' oy' h' tk' hR S8 S9 c8 c9 F' N' hf a1 a2 a3 a4 v8 v9 => by
    obtain ⟨T9, t9, u9, rfl, rfl⟩ := hR
    exact h T9 t9 u9 x' ox' y' oy' h' tk'  S8 S9 c8 c9 F' N' (hf _ (.head _)) a1 a2 a3 a4 v8 v9
theorem use_two_int {i : Int} {x y : Addr} {o1 ox o2 oy : Obj} {g1 : Obj → List (Addr × Obj)} {g2 : Obj → Obj → List (Addr × Obj)}
    (C : Core w f dep [(44, o1), (x, ox), (51, o2), (y, oy)] vs (tab2R x ox y oy (isInt i))) (hs : ∀ p ∈ [(44, o1), (x, ox), (51, o2), (y, oy)], p ∈ news) (B : Below A₀ base outer h₀) (F : Fr h₀ L s.heap m) (X : (K w.params).In h₀) (N : News h₀ L s.heap news) (T : Top p loose mean mg mb h₀) (hk : cs.kind = .function) (hd : dp + dep < recursionLimit) (hu : un + 8 * dep < cLine)
    (U1 : UpdF 44 o1 news g1) (U2 : ∀ o', UpdF 51 o2 (g1 o') (g2 o'))
    (h : ∀ (t9 : Tok) x' ox' y' oy' h' tk', St 44 80 4 q1 (madeTab 44 80 4 x').2 x' ox' → St 51 95 4 q2 (madeTab 51 95 4 y').2 y' oy' → CodeOk q1 ox' → CodeOk q2 oy' → Fr h₀ L h' m → News h₀ L h' ((x', ox') :: (y', oy') :: g2 (madeTab 44 80 4 x').2 (madeTab 51 95 4 y').2) → x' ≠ 44 → x' ≠ 51 → y' ≠ 44 → y' ≠ 51 → (∀ p ∈ news, p.1 ≠ x → p.1 ≠ y → p.1 ≠ x') → (∀ p ∈ news, p.1 ≠ x → p.1 ≠ y → p.1 ≠ y') → Q (.int i t9) { s with heap := h', toks := tk' }) : wpAny (model pgm w) (ktrTop dp un gd cn cs L a ccd cl outer) (call (.ref f) vs) Q E s :=
  use_two C hs B F X N T hk hd hu U1 U2 fun r new x' ox' y' oy' h' tk' hR S8 S9 c8 c9 F' N' hf a1 a2 a3 a4 v8 v9 => by
    obtain ⟨rfl, t9, rfl⟩ := hR
    exact h t9 x' ox' y' oy' h' tk'  S8 S9 c8 c9 F' N' a1 a2 a3 a4 v8 v9
theorem use_oneK_int {i : Int} {P x : Addr} {l c : Nat} {qn : Str} {o ox : Obj} {lk : Addr × Obj} {g : Obj → List (Addr × Obj)} (C : Core w f dep [lk, (P, o), (x, ox)] vs (tabRK P l c qn x ox [lk] (isInt i))) (hs : ∀ p ∈ [lk, (P, o), (x, ox)], p ∈ news) (B : Below A₀ base outer h₀) (F : Fr h₀ L s.heap m) (X : (K w.params).In h₀) (N : News h₀ L s.heap news) (T : Top p loose mean mg mb h₀) (hk : cs.kind = .function) (hd : dp + dep < recursionLimit) (hu : un + 8 * dep < cLine)
    (U : UpdF P o news g)
    (h : ∀ (t9 : Tok) x' ox' h' tk', St P l c qn (madeTab P l c x').2 x' ox' → CodeOk qn ox' → Fr h₀ L h' m → News h₀ L h' ((x', ox') :: g (madeTab P l c x').2) → x' ≠ P → (∀ p ∈ news, p.1 ≠ x → p.1 ≠ lk.1 → p.1 ≠ x') → Q (.int i t9) { s with heap := h', toks := tk' }) : wpAny (model pgm w) (ktrTop dp un gd cn cs L a ccd cl outer) (call (.ref f) vs) Q E s :=
  use_oneK C hs B F X N T hk hd hu U fun r new x' ox' h' tk' hR S8 c8 F' N' hf a1 v9 => by
    obtain ⟨rfl, t9, rfl⟩ := hR
    exact h t9 x' ox' h' tk'  S8 c8 F' N' a1 v9
end
section
variable {w : World} {f : Addr} {dep : Nat} {wr news : List (Addr × Obj)} {vs : List Value} {p : Program} {loose : List Str} {mean : ExcName → Option Value} {mg mb : Str → Option Value} {dp un : Nat} {gd : Option (List Code)} {cn : Str} {cs : Scope} {a : Addr} {ccd : Value} {cl : List (Str × Addr)} {outer : List Env} {A₀ : Around} {base h₀ : Heap} {L : Addr} {m : Str → Option Value} {s : Shared} {Q E : Value → Shared → Prop}
/-- a list of these numbers, made by the call -/
noncomputable def isInts (ds : List Int) (r : Value) (new : List (Addr × Obj)) : Prop := ∃ D vs n, r = .ref D ∧ new = [(D, listOf (List.toArray vs) n)] ∧ IntsAre vs ds
theorem use_ints {ds : List Int} (C : Spec w f dep wr vs (isInts ds)) (hs : ∀ p ∈ wr, p ∈ news) (B : Below A₀ base outer h₀) (F : Fr h₀ L s.heap m) (X : (K w.params).In h₀) (N : News h₀ L s.heap news) (T : Top p loose mean mg mb h₀) (hk : cs.kind = .function) (hd : dp + dep < recursionLimit) (hu : un + 8 * dep < cLine)
    (h : ∀ D ws n h' tk', IntsAre ws ds → Fr h₀ L h' m → News h₀ L h' ((D, listOf (List.toArray ws) n) :: news) → (∀ p ∈ news, p.1 ≠ D) → Q (.ref D) { s with heap := h', toks := tk' }) : wpAny (model pgm w) (ktrTop dp un gd cn cs L a ccd cl outer) (call (.ref f) vs) Q E s :=
  use_any C hs B F X N T hk hd hu fun r new h' tk' hr F' N' hf => by
    obtain ⟨D, ws, n, rfl, rfl, hi⟩ := hr
    exact h D ws n h' tk' hi F' N' (hf _ (.head _))
end
theorem off3_split {I C D : Addr} {l : List (Addr × Obj)} (x : LCg.Off3 I C D l) : (∀ p ∈ l, p.1 ≠ I) ∧ (∀ p ∈ l, p.1 ≠ C) ∧ (∀ p ∈ l, p.1 ≠ D) :=
  ⟨fun p hp => (x.mem p hp).1, fun p hp => (x.mem p hp).2.1, fun p hp => (x.mem p hp).2.2⟩
theorem off3_back {I C D : Addr} {l : List (Addr × Obj)} (a : ∀ p ∈ l, p.1 ≠ I) (b : ∀ p ∈ l, p.1 ≠ C) (c : ∀ p ∈ l, p.1 ≠ D) : LCg.Off3 I C D l := LCg.Off3.of fun p hp => ⟨a p hp, b p hp, c p hp⟩
theorem off1_split {D : Addr} : ∀ {l : List (Addr × Obj)}, LCg.Off1 D l → ∀ p ∈ l, p.1 ≠ D
  | [], _, _, h => nomatch h
  | _ :: _, x, p, h => by
    rcases List.mem_cons.mp h with rfl | h
    · exact x.1
    · exact off1_split x.2 p h
theorem ne3_split {I C D : Addr} (x : (@Ne Nat I C) ∧ (@Ne Nat I D) ∧ (@Ne Nat C D)) : (I ≠ C) ∧ (I ≠ D) ∧ (C ≠ D) := x
theorem r_ne_t {a b : Int} {X Y : Prop} (e : a ≠ b) (h : X) : if (a != b) = true then X else Y := by
  rw [if_pos (by simpa using e)]; exact h
theorem r_ne_f {a b : Int} {X Y : Prop} (e : a = b) (h : Y) : if (a != b) = true then X else Y := by
  rw [if_neg (by simpa using e)]; exact h
theorem r_eq_t {a b : Int} {X Y : Prop} (e : a = b) (h : X) : if (a == b) = true then X else Y := by
  rw [if_pos (by simpa using e)]; exact h
theorem r_eq_f {a b : Int} {X Y : Prop} (e : a ≠ b) (h : Y) : if (a == b) = true then X else Y := by
  rw [if_neg (by simpa using e)]; exact h
section
variable {w : World} {A : Around} {E : Value → Shared → Prop} {s : Shared} {value slice : PySem.Expr} {h₀ : Heap} {L D : Addr} {news : List (Addr × Obj)} {n : Nat} {x y z : Value} {l : List Value} {k : Int} {u : Tok} {Q : Value → Shared → Prop}
theorem r_li0 (e : k = 0) (N : News h₀ L s.heap news) (hm : (D, listOf (List.toArray (x :: l)) n) ∈ news) (h : Q x s)
    (hs : subscripted slice false (.ref D) (.int k u) = operate [.ref D, .int k u] (getItem (.ref D) (.int k u)) := by with_unfolding_all rfl) : wpAny (model pgm w) A (subscriptTail value slice (.ref D) (.int k u)) Q E s := by
  subst e; exact item_litK (N.isList hm) (by decide) (by decide) rfl h hs
theorem r_li1 (e : k = 1) (N : News h₀ L s.heap news) (hm : (D, listOf (List.toArray (x :: y :: l)) n) ∈ news) (h : Q y s)
    (hs : subscripted slice false (.ref D) (.int k u) = operate [.ref D, .int k u] (getItem (.ref D) (.int k u)) := by with_unfolding_all rfl) : wpAny (model pgm w) A (subscriptTail value slice (.ref D) (.int k u)) Q E s := by
  subst e; exact item_litK (N.isList hm) (by decide) (by decide) rfl h hs
theorem r_li2 (e : k = 2) (N : News h₀ L s.heap news) (hm : (D, listOf (List.toArray (x :: y :: z :: l)) n) ∈ news) (h : Q z s)
    (hs : subscripted slice false (.ref D) (.int k u) = operate [.ref D, .int k u] (getItem (.ref D) (.int k u)) := by with_unfolding_all rfl) : wpAny (model pgm w) A (subscriptTail value slice (.ref D) (.int k u)) Q E s := by
  subst e; exact item_litK (N.isList hm) (by decide) (by decide) rfl h hs
end
end
section
theorem fill_Num : K = K ∧ PySem.Challenge.rw_sn0097_01 = PySem.Challenge.rw_sn0097_01 := by k_fill; exact ⟨rfl, rfl⟩
section
variable {w : World} {f : Addr} {dep : Nat} {news : List (Addr × Obj)} {vs : List Value} {p : Program} {loose : List Str} {mean : ExcName → Option Value} {mg mb : Str → Option Value} {dp un : Nat} {gd : Option (List Code)} {cn : Str} {cs : Scope} {a : Addr} {ccd : Value} {cl : List (Str × Addr)} {outer : List Env} {A₀ : Around} {base h₀ : Heap} {L : Addr} {m : Str → Option Value} {s : Shared} {Q E : Value → Shared → Prop}
theorem use_ins {l : Addr} {o : Obj} {ds : List Int} {g : Obj → List (Addr × Obj)} (C : Core w f dep [(l, o)] vs (insR l ds)) (hm : (l, o) ∈ news) (B : Below A₀ base outer h₀) (F : Fr h₀ L s.heap m) (X : (K w.params).In h₀) (N : News h₀ L s.heap news) (T : Top p loose mean mg mb h₀) (hk : cs.kind = .function) (hd : dp + dep < recursionLimit) (hu : un + 8 * dep < cLine)
    (U : UpdF l o news g)
    (h : ∀ ws n h' tk', IntsAre ws ds → Fr h₀ L h' m → News h₀ L h' (g (listOf (List.toArray ws) n)) → Q .none { s with heap := h', toks := tk' }) : wpAny (model pgm w) (ktrTop dp un gd cn cs L a ccd cl outer) (call (.ref f) vs) Q E s :=
  use_wr C (sub1 hm) B F X N T hk hd hu fun r out h' tk' hr F' N' hkeep _ _ => by
    obtain ⟨rfl, ws, n, rfl, hi⟩ := hr
    obtain ⟨p1, r1, e1, g1e, n1, m1⟩ := U.split
    refine h ws n h' tk' hi F' fun z hz => ?_
    have nm : ∀ z : Addr × Obj, z.1 ≠ l → z.1 ∉ ([(l, o)] : List (Addr × Obj)).map (·.1) := fun z hz q => hz (by simpa using q)
    rw [g1e] at hz
    rcases List.mem_append.mp hz with hz | hz
    · exact hkeep z (by rw [e1]; exact List.mem_append_left _ hz) (nm z (n1 z hz))
    rcases List.mem_cons.mp hz with rfl | hz
    · exact N' _ (.head _)
    · exact hkeep z (by rw [e1]; exact List.mem_append_right _ (.tail _ hz)) (nm z (m1 z hz))
end
theorem lo_lt_hi {x y : Int} (h : x ≠ y) : lo2 x y < hi2 x y := by
  unfold lo2 hi2
  split <;> omega
noncomputable def ins3 (x y z : Int) : List Int := [lo2 (lo2 x y) z, lo2 (hi2 x y) (hi2 (lo2 x y) z), hi2 (hi2 x y) z]
noncomputable def ins2 (x y : Int) : List Int := [lo2 x y, hi2 x y]
local macro_rules | `(tactic| walk_at "pyIter str") => `(tactic| refine Stk.out (k := 20) ?_)
local macro_rules | `(tactic| k_room) => `(tactic| (ktr_room))
set_option maxHeartbeats 4000000 in
theorem c_num3 (w : World) (a b c : Nat) (tx : Tok) (ha : isLetter a = true) (hb : isLetter b = true) (hc : isLetter c = true) (x y z : Int) (hx : ((lowL a : Nat) : Int) - 97 = x) (hy : ((lowL b : Nat) : Int) - 97 = y) (hz : ((lowL c : Nat) : Int) - 97 = z) (hxy : x ≠ y) : Spec w 185 8 [] [.str ⟨#[a, b, c]⟩ tx] (isInts (ins3 x y z)) := by
  subst hx; subst hy; subst hz
  first | k_dflt ((refine' core_plain ?zho ?zhcd ?zhb ?zhl ?zhdep ?zhcell ?zhco ?zhgen ?zhk ?_; (case zho => k_is); (case zhcd => k_is); (case zhcell => decide); (case zhb => exact fun _ => rfl); (case zhl => exact locs rfl); (case zhdep => decide); (case zhco => exact rfl); (case zhgen => exact rfl); (case zhk => exact rfl); k_whole)) | k_dflt ((refine' core_cells ?zho ?zhcd ?zhb ?zhki ?zhnd ?zhdep ?zhco ?zhgen ?zhk ?_; (case zho => k_is); (case zhcd => k_is); (case zhb => exact fun _ => rfl); (case zhki => exact rfl); (case zhnd => decide +kernel); (case zhdep => decide); (case zhco => exact rfl); (case zhgen => exact rfl); (case zhk => exact rfl); k_whole)) | fail "enter"
  intro p loose mean mg mb dp un gd cn cs a' ccd cl outer L base g L' s Qf Er F N hlt B X T hk hd hu hret
  repeat' ((first | (k_unfold; (try dsimp only)) | (k_end; kc_close) | walk1 | (dsimp only; walk1) | (leave1; walk_say "STEP leave1"; (try dsimp only)) | fail "no step") <;> (repeat' (first
    | (refine Stk.mk (k := 20) ?_; with_reducible ((k_here; (rename Fr _ _ _ _ => lF'); (rename News _ _ _ _ => lN'); (with_unfolding_all first | refine iter_strUnr (l := [⟨#[_]⟩, ⟨#[_]⟩, ⟨#[_]⟩]) (by rfl) lF' lN' (by rfl) ?_ | refine iter_strUnr (l := [⟨#[_]⟩, ⟨#[_]⟩]) (by rfl) lF' lN' (by rfl) ?_); clear lF' lN'; intro i' l1; (try k_lt l1))))
    | (refine Stk.mk (k := 1) ?_; with_reducible ((k_here; k_dflt (first | ((with_reducible show wpAny _ _ (call (Value.ref 178) _) _ _ _); (refine' use_str (c_let3 _ _ _ _ _ ?l1 ?l2 ?l3) ?hs ?B ?F ?X ?N ?T ?hk ?hd ?hu ?_; (case l1 => with_reducible assumption); (case l2 => with_reducible assumption); (case l3 => with_reducible assumption); (case N => k_asm); (case hs => exact sub0); (case B => k_asm); (case F => k_asm); (case X => k_asm); (case T => k_asm); (case hk => first | exact rfl | assumption); (case hd => first | ktr_room | omega); (case hu => first | ktr_units | omega)); (intro t9 h9 tk9 F9 N9)) | ((with_reducible show wpAny _ _ (call (Value.ref 178) _) _ _ _); (refine' use_str (c_let2 _ _ _ _ _ ?l1 ?l2 ?l3) ?hs ?B ?F ?X ?N ?T ?hk ?hd ?hu ?_; (case l1 => with_reducible assumption); (case l2 => with_reducible assumption); (case l3 => with_reducible assumption); (case N => k_asm); (case hs => exact sub0); (case B => k_asm); (case F => k_asm); (case X => k_asm); (case T => k_asm); (case hk => first | exact rfl | assumption); (case hd => first | ktr_room | omega); (case hu => first | ktr_units | omega)); (intro t9 h9 tk9 F9 N9)) | ((with_reducible show wpAny _ _ (call (Value.ref 88) _) _ _ _); (refine' use_ins (c_ins0 _ _ _ _ _) ?hm ?B ?F ?X ?N ?T ?hk ?hd ?hu ?U ?_; (case N => k_asm); (case hm => k_mem); (case B => k_asm); (case F => k_asm); (case X => k_asm); (case T => k_asm); (case hk => first | exact rfl | assumption); (case hd => first | ktr_room | omega); (case hu => first | ktr_units | omega); (case U => k_updF); skip); (intro ws9 n9 h9 tk9 hI9 F9 N9); (obtain ⟨t1, g9⟩ := ints_1 hI9); (subst g9)) | ((with_reducible show wpAny _ _ (call (Value.ref 88) _) _ _ _); (refine' use_ins (c_ins1 _ _ _ _ _ _ _) ?hm ?B ?F ?X ?N ?T ?hk ?hd ?hu ?U ?_; (case N => k_asm); (case hm => k_mem); (case B => k_asm); (case F => k_asm); (case X => k_asm); (case T => k_asm); (case hk => first | exact rfl | assumption); (case hd => first | ktr_room | omega); (case hu => first | ktr_units | omega); (case U => k_updF); skip); (intro ws9 n9 h9 tk9 hI9 F9 N9); (obtain ⟨t1, t2, g9⟩ := ints_2 hI9); (subst g9)) | ((with_reducible show wpAny _ _ (call (Value.ref 88) _) _ _ _); (refine' use_ins (c_ins2 _ _ _ _ _ _ _ _ _ ?huv) ?hm ?B ?F ?X ?N ?T ?hk ?hd ?hu ?U ?_; (case N => k_asm); (case hm => k_mem); (case B => k_asm); (case F => k_asm); (case X => k_asm); (case T => k_asm); (case hk => first | exact rfl | assumption); (case hd => first | ktr_room | omega); (case hu => first | ktr_units | omega); (case U => k_updF); (case huv => exact lo_lt_hi (by omega)); skip); (intro ws9 n9 h9 tk9 hI9 F9 N9); (obtain ⟨t1, t2, t3, g9⟩ := ints_3 hI9); (subst g9))); (try dsimp only); (try k_fold)))))))
  exact hret _ [(_, _)] _ _ _ ⟨_, rfl, ⟨_, _, _, rfl, rfl, .cons _ _ (.cons _ _ (.cons _ _ .nil))⟩, fun _ _ h => nomatch h⟩ (by k_asm) (news_sub (by k_asm) (subC (by k_mem) sub0))
set_option maxHeartbeats 4000000 in
theorem c_num2 (w : World) (a b c : Nat) (tx : Tok) (ha : isLetter a = true) (hb : isVeil b = true) (hc : isLetter c = true) (x y : Int) (hx : ((lowL a : Nat) : Int) - 97 = x) (hy : ((lowL c : Nat) : Int) - 97 = y) : Spec w 185 8 [] [.str ⟨#[a, b, c]⟩ tx] (isInts (ins2 x y)) := by
  subst hx; subst hy
  first | k_dflt ((refine' core_plain ?zho ?zhcd ?zhb ?zhl ?zhdep ?zhcell ?zhco ?zhgen ?zhk ?_; (case zho => k_is); (case zhcd => k_is); (case zhcell => decide); (case zhb => exact fun _ => rfl); (case zhl => exact locs rfl); (case zhdep => decide); (case zhco => exact rfl); (case zhgen => exact rfl); (case zhk => exact rfl); k_whole)) | k_dflt ((refine' core_cells ?zho ?zhcd ?zhb ?zhki ?zhnd ?zhdep ?zhco ?zhgen ?zhk ?_; (case zho => k_is); (case zhcd => k_is); (case zhb => exact fun _ => rfl); (case zhki => exact rfl); (case zhnd => decide +kernel); (case zhdep => decide); (case zhco => exact rfl); (case zhgen => exact rfl); (case zhk => exact rfl); k_whole)) | fail "enter"
  intro p loose mean mg mb dp un gd cn cs a' ccd cl outer L base g L' s Qf Er F N hlt B X T hk hd hu hret
  repeat' ((first | (k_unfold; (try dsimp only)) | (k_end; kc_close) | walk1 | (dsimp only; walk1) | (leave1; walk_say "STEP leave1"; (try dsimp only)) | fail "no step") <;> (repeat' (first
    | (refine Stk.mk (k := 20) ?_; with_reducible ((k_here; (rename Fr _ _ _ _ => lF'); (rename News _ _ _ _ => lN'); (with_unfolding_all first | refine iter_strUnr (l := [⟨#[_]⟩, ⟨#[_]⟩, ⟨#[_]⟩]) (by rfl) lF' lN' (by rfl) ?_ | refine iter_strUnr (l := [⟨#[_]⟩, ⟨#[_]⟩]) (by rfl) lF' lN' (by rfl) ?_); clear lF' lN'; intro i' l1; (try k_lt l1))))
    | (refine Stk.mk (k := 1) ?_; with_reducible ((k_here; k_dflt (first | ((with_reducible show wpAny _ _ (call (Value.ref 178) _) _ _ _); (refine' use_str (c_let3 _ _ _ _ _ ?l1 ?l2 ?l3) ?hs ?B ?F ?X ?N ?T ?hk ?hd ?hu ?_; (case l1 => with_reducible assumption); (case l2 => with_reducible assumption); (case l3 => with_reducible assumption); (case N => k_asm); (case hs => exact sub0); (case B => k_asm); (case F => k_asm); (case X => k_asm); (case T => k_asm); (case hk => first | exact rfl | assumption); (case hd => first | ktr_room | omega); (case hu => first | ktr_units | omega)); (intro t9 h9 tk9 F9 N9)) | ((with_reducible show wpAny _ _ (call (Value.ref 178) _) _ _ _); (refine' use_str (c_let2 _ _ _ _ _ ?l1 ?l2 ?l3) ?hs ?B ?F ?X ?N ?T ?hk ?hd ?hu ?_; (case l1 => with_reducible assumption); (case l2 => with_reducible assumption); (case l3 => with_reducible assumption); (case N => k_asm); (case hs => exact sub0); (case B => k_asm); (case F => k_asm); (case X => k_asm); (case T => k_asm); (case hk => first | exact rfl | assumption); (case hd => first | ktr_room | omega); (case hu => first | ktr_units | omega)); (intro t9 h9 tk9 F9 N9)) | ((with_reducible show wpAny _ _ (call (Value.ref 88) _) _ _ _); (refine' use_ins (c_ins0 _ _ _ _ _) ?hm ?B ?F ?X ?N ?T ?hk ?hd ?hu ?U ?_; (case N => k_asm); (case hm => k_mem); (case B => k_asm); (case F => k_asm); (case X => k_asm); (case T => k_asm); (case hk => first | exact rfl | assumption); (case hd => first | ktr_room | omega); (case hu => first | ktr_units | omega); (case U => k_updF); skip); (intro ws9 n9 h9 tk9 hI9 F9 N9); (obtain ⟨t1, g9⟩ := ints_1 hI9); (subst g9)) | ((with_reducible show wpAny _ _ (call (Value.ref 88) _) _ _ _); (refine' use_ins (c_ins1 _ _ _ _ _ _ _) ?hm ?B ?F ?X ?N ?T ?hk ?hd ?hu ?U ?_; (case N => k_asm); (case hm => k_mem); (case B => k_asm); (case F => k_asm); (case X => k_asm); (case T => k_asm); (case hk => first | exact rfl | assumption); (case hd => first | ktr_room | omega); (case hu => first | ktr_units | omega); (case U => k_updF); skip); (intro ws9 n9 h9 tk9 hI9 F9 N9); (obtain ⟨t1, t2, g9⟩ := ints_2 hI9); (subst g9)) | ((with_reducible show wpAny _ _ (call (Value.ref 88) _) _ _ _); (refine' use_ins (c_ins2 _ _ _ _ _ _ _ _ _ ?huv) ?hm ?B ?F ?X ?N ?T ?hk ?hd ?hu ?U ?_; (case N => k_asm); (case hm => k_mem); (case B => k_asm); (case F => k_asm); (case X => k_asm); (case T => k_asm); (case hk => first | exact rfl | assumption); (case hd => first | ktr_room | omega); (case hu => first | ktr_units | omega); (case U => k_updF); (case huv => exact lo_lt_hi (by omega)); skip); (intro ws9 n9 h9 tk9 hI9 F9 N9); (obtain ⟨t1, t2, t3, g9⟩ := ints_3 hI9); (subst g9))); (try dsimp only); (try k_fold)))))))
  exact hret _ [(_, _)] _ _ _ ⟨_, rfl, ⟨_, _, _, rfl, rfl, .cons _ _ (.cons _ _ .nil)⟩, fun _ _ h => nomatch h⟩ (by k_asm) (news_sub (by k_asm) (subC (by k_mem) sub0))
end
section
local macro_rules | `(tactic| k_ne) => `(tactic| ((try dsimp only); first
  | with_reducible assumption
  | (refine Ne.symm ?_; with_reducible assumption)
  | (refine neN ?_; omega)
  | (refine' ne_l ?h ?m; (case h => with_reducible assumption); (case m => k_mem))
  | (refine' Ne.symm (ne_l ?h ?m); (case h => with_reducible assumption); (case m => k_mem))
  | (refine' ne_x ?h ?m ?n1 ?n2; (case h => with_reducible assumption); (case m => k_mem); (case n1 => k_ne); (case n2 => k_ne))
  | (refine' Ne.symm (ne_x ?h ?m ?n1 ?n2); (case h => with_reducible assumption); (case m => k_mem); (case n1 => k_ne); (case n2 => k_ne))))
local macro_rules | `(tactic| lcg_off) => `(tactic| (refine' off3_back ?a ?b ?c; (case a => with_reducible assumption); (case b => with_reducible assumption); (case c => with_reducible assumption)))
local macro_rules | `(tactic| walk_at "ite") => `(tactic| (k_here; k_dflt (first
  | ((with_reducible refine' r_ne_t ?e ?_); (case e => omega))
  | ((with_reducible refine' r_ne_f ?e ?_); (case e => omega))
  | ((with_reducible refine' r_eq_t ?e ?_); (case e => omega))
  | ((with_reducible refine' r_eq_f ?e ?_); (case e => omega)))))
section
local macro_rules | `(tactic| k_room) => `(tactic| (ktr_room))
local macro_rules | `(tactic| walk_at "execs cons") => `(tactic| (k_here; refine gen_toks ?_; intro tk; (try k_made); (try (with_reducible refine drop_tup (by assumption) ?_; intro N8)); (with_reducible refine wpAny_execs_cons ?_); try dsimp only))
local macro_rules | `(tactic| walk_at "execs nil") => `(tactic| (k_here; refine gen_toks ?_; intro tk; (try (with_reducible refine drop_tup (by assumption) ?_; intro N8)); refine wpAny_execs_nil ?_))
section
theorem fill_Wri : K = K ∧ PySem.Challenge.rw_sn0097_01 = PySem.Challenge.rw_sn0097_01 := by k_fill; exact ⟨rfl, rfl⟩
theorem w_chr {X r : Int} (h : 0 ≤ r ∧ r < 26) : 0 ≤ 97 - 32 * (X % 2) + r ∧ 97 - 32 * (X % 2) + r ≤ 1114111 := by omega
local macro_rules | `(tactic| walk_at "call builtin:chr") => `(tactic| refine Stk.out (k := 21) ?_)
noncomputable def isHS (h : Int) (x : Str) (r : Value) (new : List (Addr × Obj)) : Prop := ∃ T t1 t2, r = .ref T ∧ new = [(T, ⟨.type "tuple", none, .seq #[.int h t1, .str x t2] 0, #[]⟩)]
noncomputable def wsign (b u : Int) : Nat := (97 - 32 * b + u).toNat
noncomputable def wmsg (k u w : Int) (v : Nat) : Str := if k / 4 % 2 = 1 then ⟨#[wsign (k / 2 % 2) w, v, wsign (k % 2) u]⟩ else ⟨#[wsign (k % 2) u, v, wsign (k / 2 % 2) w]⟩
theorem wmsg_n {k u w a b : Int} {v : Nat} (hk : ¬ k / 4 % 2 = 1) (h1 : a = 97 - 32 * (k % 2) + u) (h2 : b = 97 - 32 * (k / 2 % 2) + w) : (⟨#[a.toNat, v, b.toNat]⟩ : Str) = wmsg k u w v := by
  unfold wmsg wsign; rw [if_neg hk, h1, h2]
theorem wmsg_y {k u w a b : Int} {v : Nat} (hk : k / 4 % 2 = 1) (h1 : a = 97 - 32 * (k % 2) + u) (h2 : b = 97 - 32 * (k / 2 % 2) + w) : (⟨#[b.toNat, v, a.toNat]⟩ : Str) = wmsg k u w v := by
  unfold wmsg wsign; rw [if_pos hk, h1, h2]
theorem mk_hs {h i : Int} {x y : Str} {T : Addr} {t u : Tok} (e1 : i = h) (e2 : y = x) : isHS h x (.ref T) [(T, ⟨.type "tuple", none, .seq #[.int i t, .str y u] 0, #[]⟩)] := ⟨T, t, u, rfl, by rw [e1, e2]⟩
theorem c_idk (w : World) (q r a : Int) (eq : a / 3 = q) (er : a % 3 = r) (ta tb : Tok) (ha : -256 ≤ a ∧ a < 256) (o1 : Obj) (x : Addr) (ox : Obj) (o2 : Obj) (y : Addr) (oy : Obj) (S1 : St 44 80 4 q1 o1 x ox) (S2 : St 51 95 4 q2 o2 y oy) (hx1 : @LT.lt Nat _ x 44 ∨ @LT.lt Nat _ 44 x) (hx2 : @LT.lt Nat _ x 51 ∨ @LT.lt Nat _ 51 x) (hy1 : @LT.lt Nat _ y 44 ∨ @LT.lt Nat _ 44 y) (hy2 : @LT.lt Nat _ y 51 ∨ @LT.lt Nat _ 51 y) :
    Core w 70 16 [(44, o1), (x, ox), (51, o2), (y, oy)] [.int a ta, .int 3 tb] (tab2R x ox y oy (isPair q r)) := by
  subst eq; subst er
  exact c_id w a ta tb ha o1 x ox o2 y oy S1 S2 hx1 hx2 hy1 hy2
theorem c_bl2e (w : World) (k : Int) (l : Addr) (u v x : Int) (tu tv tx : Tok) (n : Nat) (huv : u < v) (e : bl2v u v x = k) : Spec w 97 3 [(l, listOf #[.int u tu, .int v tv] n)] [.ref l, .int x tx] (isInt k) := by
  subst e; exact c_bl2 w l u v x tu tv tx n huv
/-- the digits by one of k, with three noughts behind -/
noncomputable def bitsL (k : Int) (vs : List Value) : Prop := ∃ ds rest, IntsAre vs ds ∧ ds ++ [0, 0, 0] = (k % 2) :: (k / 2 % 2) :: (k / 4 % 2) :: rest ∧ ds.length ≤ 3
noncomputable def isBits (k : Int) (r : Value) (new : List (Addr × Obj)) : Prop := ∃ D vs n, r = .ref D ∧ new = [(D, listOf (List.toArray vs) n)] ∧ bitsL k vs
section
variable {w : World} {f : Addr} {dep : Nat} {wr news : List (Addr × Obj)} {vs : List Value} {p : Program} {loose : List Str} {mean : ExcName → Option Value} {mg mb : Str → Option Value} {dp un : Nat} {gd : Option (List Code)} {cn : Str} {cs : Scope} {a : Addr} {ccd : Value} {cl : List (Str × Addr)} {outer : List Env} {A₀ : Around} {base h₀ : Heap} {L : Addr} {m : Str → Option Value} {s : Shared} {Q E : Value → Shared → Prop}
theorem use_one_bits {i : Int} {P x : Addr} {l c : Nat} {qn : Str} {o ox : Obj} {g : Obj → List (Addr × Obj)} (C : Core w f dep [(P, o), (x, ox)] vs (tabR P l c qn x ox (isBits i))) (hs : ∀ p ∈ [(P, o), (x, ox)], p ∈ news) (B : Below A₀ base outer h₀) (F : Fr h₀ L s.heap m) (X : (K w.params).In h₀) (N : News h₀ L s.heap news) (T : Top p loose mean mg mb h₀) (hk : cs.kind = .function) (hd : dp + dep < recursionLimit) (hu : un + 8 * dep < cLine)
    (U : UpdF P o news g)
    (h : ∀ (D9 : Addr) (vs9 : List Value) (n9 : Nat) x' ox' h' tk', bitsL i vs9 → St P l c qn (madeTab P l c x').2 x' ox' → CodeOk qn ox' → Fr h₀ L h' m → News h₀ L h' ((D9, listOf (List.toArray vs9) n9) :: ((x', ox') :: g (madeTab P l c x').2)) → (∀ p ∈ news, p.1 ≠ D9) → x' ≠ P → (∀ p ∈ news, p.1 ≠ x → p.1 ≠ x → p.1 ≠ x') → Q (.ref D9) { s with heap := h', toks := tk' }) : wpAny (model pgm w) (ktrTop dp un gd cn cs L a ccd cl outer) (call (.ref f) vs) Q E s :=
  use_one C hs B F X N T hk hd hu U fun r new x' ox' h' tk' hR S8 c8 F' N' hf a1 v9 => by
    obtain ⟨D9, vs9, n9, rfl, rfl, hI9⟩ := hR
    exact h D9 vs9 n9 x' ox' h' tk' hI9 S8 c8 F' N' (hf _ (.head _)) a1 v9
theorem use_two_hs {i : Int} {j : Str} {x y : Addr} {o1 ox o2 oy : Obj} {g1 : Obj → List (Addr × Obj)} {g2 : Obj → Obj → List (Addr × Obj)}
    (C : Core w f dep [(44, o1), (x, ox), (51, o2), (y, oy)] vs (tab2R x ox y oy (isHS i j))) (hs : ∀ p ∈ [(44, o1), (x, ox), (51, o2), (y, oy)], p ∈ news) (B : Below A₀ base outer h₀) (F : Fr h₀ L s.heap m) (X : (K w.params).In h₀) (N : News h₀ L s.heap news) (T : Top p loose mean mg mb h₀) (hk : cs.kind = .function) (hd : dp + dep < recursionLimit) (hu : un + 8 * dep < cLine)
    (U1 : UpdF 44 o1 news g1) (U2 : ∀ o', UpdF 51 o2 (g1 o') (g2 o'))
    (h : ∀ (T9 : Addr) (t9 u9 : Tok) x' ox' y' oy' h' tk', St 44 80 4 q1 (madeTab 44 80 4 x').2 x' ox' → St 51 95 4 q2 (madeTab 51 95 4 y').2 y' oy' → CodeOk q1 ox' → CodeOk q2 oy' → Fr h₀ L h' m → News h₀ L h' ((T9, ⟨.type "tuple", none, .seq #[.int i t9, .str j u9] 0, #[]⟩) :: ((x', ox') :: (y', oy') :: g2 (madeTab 44 80 4 x').2 (madeTab 51 95 4 y').2)) → (∀ p ∈ news, p.1 ≠ T9) →
      x' ≠ 44 → x' ≠ 51 → y' ≠ 44 → y' ≠ 51 → (∀ p ∈ news, p.1 ≠ x → p.1 ≠ y → p.1 ≠ x') → (∀ p ∈ news, p.1 ≠ x → p.1 ≠ y → p.1 ≠ y') → Q (.ref T9) { s with heap := h', toks := tk' }) : wpAny (model pgm w) (ktrTop dp un gd cn cs L a ccd cl outer) (call (.ref f) vs) Q E s :=
  use_two C hs B F X N T hk hd hu U1 U2 fun r new x' ox' y' oy' h' tk' hR S8 S9 c8 c9 F' N' hf a1 a2 a3 a4 v8 v9 => by
    obtain ⟨T9, t9, u9, rfl, rfl⟩ := hR
    exact h T9 t9 u9 x' ox' y' oy' h' tk'  S8 S9 c8 c9 F' N' (hf _ (.head _)) a1 a2 a3 a4 v8 v9
end
theorem tabR_to {P : Addr} {l c : Nat} {q : Str} {x : Addr} {ox : Obj} {R R' : Value → List (Addr × Obj) → Prop} (h : ∀ r o, R r o → R' r o) (r : Value) (out : List (Addr × Obj)) : tabR P l c q x ox R r out → tabR P l c q x ox R' r out := fun ⟨new, x', ox', a, b, c, d, e⟩ => ⟨new, x', ox', h _ _ a, b, c, d, e⟩
theorem dig_bits {k : Int} {ds rest : List Int} (e : ds ++ [0, 0, 0] = (k % 2) :: (k / 2 % 2) :: (k / 4 % 2) :: rest) (hl : ds.length ≤ 3) (r : Value) (o : List (Addr × Obj)) : Dig ds r o → isBits k r o := fun ⟨D, vs, n, a, b, c⟩ => ⟨D, vs, n, a, b, ds, rest, c, e, hl⟩
theorem c_i2_1 (w : World) (a : Int) (ta tn : Tok) (ha : 0 ≤ a ∧ a < 8) (o : Obj) (x : Addr) (ox : Obj) (S : St 44 80 4 q1 o x ox) (hx : @LT.lt Nat _ x 44 ∨ @LT.lt Nat _ 44 x) :
    Core w 49 8 [(44, o), (x, ox)] [.int a ta, .int 1 tn] (tabR 44 80 4 q1 x ox (isBits a)) := by
  have go : ∀ k : Nat, k ≤ 3 → a < 2 ^ (1 * k) → (k = 0 ∨ 1 ≤ k ∧ 2 ^ (1 * (k - 1)) ≤ a) → (∃ rest, digs 1 k a ++ [0, 0, 0] = (a % 2) :: (a / 2 % 2) :: (a / 4 % 2) :: rest) → Core w 49 8 [(44, o), (x, ox)] [.int a ta, .int 1 tn] (tabR 44 80 4 q1 x ox (isBits a)) := fun k h1 h2 h3 ⟨rest, h4⟩ =>
    core_to0 (c_i2 w a 1 ta tn 1 k (.inl rfl) rfl (by omega) ha.1 h2 h3 o x ox S hx) (tabR_to (dig_bits (rest := rest) h4 (by rw [digs_len]; exact h1)))
  by_cases e0 : a < 1
  · exact go 0 (by decide) (by simp only [Nat.mul_zero, Int.pow_zero]; omega) (.inl rfl) ⟨[], by rw [show a = 0 by omega]; rfl⟩
  by_cases e1 : a < 2
  · exact go 1 (by decide) (by simp only [Nat.reduceMul, Int.reducePow]; omega) (.inr ⟨by decide, by simp only [Nat.reduceMul, Nat.reduceSub, Int.reducePow]; omega⟩) ⟨[0], by rw [show a = 1 by omega]; rfl⟩
  by_cases e2 : a < 4
  · exact go 2 (by decide) (by simp only [Nat.reduceMul, Int.reducePow]; omega) (.inr ⟨by decide, by simp only [Nat.reduceMul, Nat.reduceSub, Int.reducePow]; omega⟩) ⟨[0, 0], by rw [show a / 4 % 2 = 0 by omega]; rfl⟩
  · exact go 3 (by decide) (by simp only [Nat.reduceMul, Int.reducePow]; omega) (.inr ⟨by decide, by simp only [Nat.reduceMul, Nat.reduceSub, Int.reducePow]; omega⟩) ⟨[0, 0, 0], by simp only [digs, Int.reducePow, Int.pow_one, List.cons_append, List.nil_append]; rw [show a / 2 / 2 % 2 = a / 4 % 2 by omega]⟩
theorem r_add_bits {w : World} {A : Around} {E : Value → Shared → Prop} {s : Shared} {h₀ : Heap} {L D Z : Addr} {m : Str → Option Value} {news : List (Addr × Obj)} {vs : List Value} {k : Int} {z0 z1 z2 : Tok} {n nz : Nat} {Q : Value → Shared → Prop} (hb : bitsL k vs) (F : Fr h₀ L s.heap m) (N : News h₀ L s.heap news)
    (hm : (D, listOf (List.toArray vs) n) ∈ news) (hz : (Z, listOf #[.int 0 z0, .int 0 z1, .int 0 z2] nz) ∈ news)
    (h : ∀ D' t0 t1 t2 rest h', Fr h₀ L h' m → News h₀ L h' ((D', listOf (List.toArray (.int (k % 2) t0 :: .int (k / 2 % 2) t1 :: .int (k / 4 % 2) t2 :: rest)) 0) :: news) → (∀ p ∈ news, p.1 < D') → Q (.ref D') { s with heap := h' }) :
    wpAny (model pgm w) A (binaryOp .Add (.ref D) (.ref Z)) Q E s := by
  obtain ⟨ds, rs, hi, e, hl⟩ := hb
  have hl2 := hi.length
  have hi2 : IntsAre (vs ++ [.int 0 z0, .int 0 z1, .int 0 z2]) (ds ++ [0, 0, 0]) := hi.append (.cons _ _ (.cons _ _ (.cons _ _ .nil)))
  rw [e] at hi2
  refine kmk_add_lit (its := vs.toArray) (its2 := #[.int 0 z0, .int 0 z1, .int 0 z2]) (zs := vs ++ [.int 0 z0, .int 0 z1, .int 0 z2]) F N (N.isList hm) (N.isList hz) (by simp) (fun D' h' F' N' l' => ?_) (by rw [sizeLine_eq]; simp; omega)
  generalize vs ++ [.int 0 z0, .int 0 z1, .int 0 z2] = us at hi2 N'
  cases hi2 with | cons _ t0 hi2 => cases hi2 with | cons _ t1 hi2 => cases hi2 with | cons _ t2 hi2 => exact h _ _ _ _ _ _ F' N' l'
local macro_rules | `(tactic| walk_at "CompRest") => `(tactic| refine Stk.out (k := 22) ?_)
local macro_rules | `(tactic| walk_at "FinE") => `(tactic| refine Stk.out (k := 23) ?_)
local macro_rules | `(tactic| walk_at "subscriptTail Name Constant ref int") => `(tactic| refine Stk.out (k := 25) ?_)
local macro_rules | `(tactic| walk_at "subscriptTail Name Name ref int") => `(tactic| refine Stk.out (k := 13) ?_)
local macro_rules | `(tactic| walk_at "exec Assign cons ListComp") => `(tactic| refine Stk.out (k := 26) ?_)
local macro_rules | `(tactic| walk_at "ite") => `(tactic| (k_here; k_dflt (first
  | ((with_reducible refine' r_gd_t ?e ?e1 ?_); (case e => decide); (case e1 => omega))
  | ((with_reducible refine' r_gd_f ?e ?e1 ?_); (case e => decide); (case e1 => omega)))))
local macro_rules | `(tactic| walk_at "CompSrcT") => `(tactic| refine Stk.out (k := 27) ?_)
theorem c_num3e (w : World) (a b c : Nat) (tx : Tok) (ha : isLetter a = true) (hb : isLetter b = true) (hc : isLetter c = true) (x y z : Int) (hx : ((lowL a : Nat) : Int) - 97 = x) (hy : ((lowL b : Nat) : Int) - 97 = y) (hz : ((lowL c : Nat) : Int) - 97 = z) (hxy : x ≠ y) (p q r : Int) (e : ins3 x y z = [p, q, r]) : Spec w 185 8 [] [.str ⟨#[a, b, c]⟩ tx] (isInts [p, q, r]) := by
  rw [← e]; exact c_num3 w a b c tx ha hb hc x y z hx hy hz hxy
local macro_rules | `(tactic| walk_at "binaryOp Add ref ref") => `(tactic| refine Stk.out (k := 28) ?_)
set_option maxHeartbeats 8000000 in
theorem c_wri0 (w : World) (a b c : Nat) (vv : Nat) (tx tv : Tok) (ha : isLetter a = true) (hb : isLetter b = true) (hc : isLetter c = true) (x y z : Int) (hx : ((lowL a : Nat) : Int) - 97 = x) (hy : ((lowL b : Nat) : Int) - 97 = y) (hz : ((lowL c : Nat) : Int) - 97 = z) (hxy : x ≠ y) (p q r : Int) (he : ins3 x y z = [p, q, r]) (h0 : 0 ≤ p) (h1 : p < q) (h2 : q < r) (h3 : r < 26) (hi : (p + q + r) % 3 = 0)
    (o1 : Obj) (x' : Addr) (ox : Obj) (o2 : Obj) (y' : Addr) (oy : Obj) (S1 : St 44 80 4 q1 o1 x' ox) (S2 : St 51 95 4 q2 o2 y' oy) (hx1 : @LT.lt Nat _ x' 44 ∨ @LT.lt Nat _ 44 x') (hx2 : @LT.lt Nat _ x' 51 ∨ @LT.lt Nat _ 51 x') (hy1 : @LT.lt Nat _ y' 44 ∨ @LT.lt Nat _ 44 y') (hy2 : @LT.lt Nat _ y' 51 ∨ @LT.lt Nat _ 51 y') :
    Core w 190 22 [(44, o1), (x', ox), (51, o2), (y', oy)] [.str ⟨#[a, b, c]⟩ tx, .str ⟨#[vv]⟩ tv] (tab2R x' ox y' oy (isHS p (wmsg ((p - 0) / 3) q r vv))) := by
  first | k_dflt ((refine' core_plain ?zho ?zhcd ?zhb ?zhl ?zhdep ?zhcell ?zhco ?zhgen ?zhk ?_; (case zho => k_is); (case zhcd => k_is); (case zhcell => decide); (case zhb => exact fun _ => rfl); (case zhl => exact locs rfl); (case zhdep => decide); (case zhco => exact rfl); (case zhgen => exact rfl); (case zhk => exact rfl); k_whole)) | k_dflt ((refine' core_cells ?zho ?zhcd ?zhb ?zhki ?zhnd ?zhdep ?zhco ?zhgen ?zhk ?_; (case zho => k_is); (case zhcd => k_is); (case zhb => exact fun _ => rfl); (case zhki => exact rfl); (case zhnd => decide +kernel); (case zhdep => decide); (case zhco => exact rfl); (case zhgen => exact rfl); (case zhk => exact rfl); k_whole)) | fail "enter"
  intro p' loose mean mg mb dp un gd cn cs a' ccd cl outer L base g L' cells s Qf Er F N Y hlt B X T hk hd hu hret
  k_lt hlt
  k_cells Y
  simp only [List.cons_append, List.nil_append] at N
  replace hx1 := toNe hx1
  replace hx2 := toNe hx2
  replace hy1 := toNe hy1
  replace hy2 := toNe hy2
  have bp : 0 ≤ p ∧ p < 26 := ⟨h0, by omega⟩
  have bq : 0 ≤ q ∧ q < 26 := ⟨by omega, by omega⟩
  have br : 0 ≤ r ∧ r < 26 := ⟨by omega, h3⟩
  repeat' ((first | (k_unfold; (try dsimp only)) | (k_end; kc_close) | walk1 | (dsimp only; walk1) | (leave1; walk_say "STEP leave1"; (try dsimp only)) | fail "no step") <;> (repeat' (first
    | (refine Stk.mk (k := 21) ?_; with_reducible ((k_here; (with_reducible show wpAny _ _ (call (Value.builtin "chr") [Value.int _ _]) _ _ _); (refine' r_chr ?k1 ?k2 ?_; (case k1 => first | exact (w_chr (by with_reducible assumption)).1 | omega); (case k2 => first | exact (w_chr (by with_reducible assumption)).2 | omega)))))
    | (refine Stk.mk (k := 19) ?_; with_reducible ((with_unfolding_all first | (refine LCt.CompRestT.succ ?_; intro v' I' oI' C' oC' D' m' h' tk' E' hv' hC' hx' F' N' off' ne'; (first | lcg_open hv' | (obtain ⟨t9', hv9'⟩ := hv'; subst hv9')); (have o1' := (off3_split off').1); (have o2' := (off3_split off').2.1); (have o3' := (off3_split off').2.2); (clear off'); (have n1' := (ne3_split ne').1); (have n2' := (ne3_split ne').2.1); (have n3' := (ne3_split ne').2.2); (clear ne')) | refine LCt.CompRestT.zero ?_)))
    | (refine Stk.mk (k := 22) ?_; with_reducible ((with_unfolding_all first | (refine LCg.CompRest.succ ?_; intro v' I' oI' C' oC' D' m' h' tk' E' hv' hC' hx' F' N' off' ne'; (first | lcg_open hv' | (obtain ⟨t9', hv9'⟩ := hv'; subst hv9')); (have o1' := (off3_split off').1); (have o2' := (off3_split off').2.1); (have o3' := (off3_split off').2.2); (clear off'); (have n1' := (ne3_split ne').1); (have n2' := (ne3_split ne').2.1); (have n3' := (ne3_split ne').2.2); (clear ne')) | refine LCg.CompRest.zero ?_)))
    | (refine Stk.mk (k := 23) ?_; with_reducible (((unfold LCg.FinE); intro D' h' tk' F' N' o1'; (replace o1' := off1_split o1'); (try simp only [List.nil_append, List.cons_append] at N'); (try dsimp only))))
    | (refine Stk.mk (k := 24) ?_; with_reducible (((unfold LCg.FinA); intro D' h' tk' F' N' o1'; (replace o1' := off1_split o1'); (try simp only [List.nil_append, List.cons_append] at N'); (try dsimp only))))
    | (refine Stk.mk (k := 25) ?_; with_reducible ((k_here; (with_reducible show wpAny _ _ (subscriptTail _ _ (Value.ref _) (Value.int _ _)) _ _ _); k_dflt (first | (refine' r_li0 ?e ?N ?m ?_ ?s; (case e => decide); (case N => k_asm); (case m => k_mem); (case s => with_unfolding_all rfl)) | (refine' r_li1 ?e ?N ?m ?_ ?s; (case e => decide); (case N => k_asm); (case m => k_mem); (case s => with_unfolding_all rfl)) | (refine' r_li2 ?e ?N ?m ?_ ?s; (case e => decide); (case N => k_asm); (case m => k_mem); (case s => with_unfolding_all rfl))))))
    | (refine Stk.mk (k := 13) ?_; with_reducible ((k_here; (with_reducible show wpAny _ _ (subscriptTail _ _ (Value.ref _) (Value.int _ _)) _ _ _); k_dflt (first | (refine' r_li0 ?e ?N ?m ?_ ?s; (case e => decide); (case N => k_asm); (case m => k_mem); (case s => with_unfolding_all rfl)) | (refine' r_li1 ?e ?N ?m ?_ ?s; (case e => decide); (case N => k_asm); (case m => k_mem); (case s => with_unfolding_all rfl)) | (refine' r_li2 ?e ?N ?m ?_ ?s; (case e => decide); (case N => k_asm); (case m => k_mem); (case s => with_unfolding_all rfl))))))
    | (refine Stk.mk (k := 15) ?_; first | with_reducible ((k_here; lct_look; k_dflt (refine LCt.ListComp_T (F₀ := by k_asm) (by with_unfolding_all rfl) (by decide) (by rfl) (by decide) (by rfl) ?_); k_dflt lct_toSrc)) | with_reducible ((k_here; k_dflt (refine LCg.ListComp_U (F₀ := by k_asm) (by with_unfolding_all rfl) (by decide) (by rfl) (by decide) (by rfl) ?_); k_dflt lcg_toSrc)))
    | (refine Stk.mk (k := 26) ?_; first | with_reducible ((k_here; lct_look; k_dflt (refine wpAny_Assign_Name ?_ (by with_unfolding_all rfl)))) | with_reducible ((k_here; k_dflt (refine LCg.Assign_ListComp_U (F₀ := by k_asm) (by rfl) (by with_unfolding_all rfl) (by with_unfolding_all rfl) (by decide) (by rfl) (by decide) (by rfl) (by rfl) (by rfl) ?_); k_dflt lcg_toSrc)))
    | (refine Stk.mk (k := 16) ?_; with_reducible ((k_here; k_dflt (first | (refine LCg.CompSrc.ledger (by rfl) (by k_asm) (by k_asm) (by k_mem) (by first | exact Nat.le_of_ble_eq_true rfl | size_fits) ?_; intro g'; lcg_lit) | (refine LCg.CompSrc.range (by rfl) (by k_asm) (by k_asm) (by assumption) (by first | decide | rfl) (by first | rfl | decide) (by first | exact Nat.le_of_ble_eq_true rfl | size_fits) ?_; intro g'; lcg_lit)))))
    | (refine Stk.mk (k := 27) ?_; with_reducible ((k_here; k_dflt (refine LCt.CompSrcT.ledger (by rfl) (by k_asm) (by k_asm) (by k_mem) (by exact Nat.le_of_ble_eq_true rfl) ?_; intro g'; lct_lit))))
    | (refine Stk.mk (k := 1) ?_; with_reducible ((k_here; k_dflt (first | ((with_reducible show wpAny _ _ (call (Value.ref 185) _) _ _ _); (refine' use_ints (c_num3e _ _ _ _ _ ?l1 ?l2 ?l3 _ _ _ ?k1 ?k2 ?k3 ?k4 _ _ _ ?k5) ?hs ?B ?F ?X ?N ?T ?hk ?hd ?hu ?_; (case l1 => with_reducible assumption); (case l2 => with_reducible assumption); (case l3 => with_reducible assumption); (case k1 => with_reducible assumption); (case k2 => with_reducible assumption); (case k3 => with_reducible assumption); (case k4 => with_reducible assumption); (case k5 => with_reducible assumption); (case N => k_asm); (case hs => exact sub0); (case B => k_asm); (case F => k_asm); (case X => k_asm); (case T => k_asm); (case hk => first | exact rfl | assumption); (case hd => first | ktr_room | omega); (case hu => first | ktr_units | omega)); (intro D9 ws9 n9 h9 tk9 hI9 F9 N9 l9); (obtain ⟨t1, t2, t3, g9⟩ := ints_3 hI9); (subst g9); (clear hI9)) | ((with_reducible show wpAny _ _ (call (Value.ref 70) _) _ _ _); (refine' use_two_pair (c_idk _ _ 0 _ rfl ?er _ _ ?ha _ _ _ _ _ _ ?S ?S2 ?h1 ?h2 ?h3 ?h4) ?hs ?B ?F ?X ?N ?T ?hk ?hd ?hu ?U ?U2 ?_; (case S => with_reducible assumption); (case S2 => with_reducible assumption); (case N => k_asm); (case hs => exact subC (by k_mem) (subC (by k_mem) (subC (by k_mem) (subC (by k_mem) sub0)))); (case B => k_asm); (case F => k_asm); (case X => k_asm); (case T => k_asm); (case hk => first | exact rfl | assumption); (case hd => first | ktr_room | omega); (case hu => first | ktr_units | omega); (case er => omega); (case ha => omega); (case h1 => exact ofNe (by k_ne)); (case h2 => exact ofNe (by k_ne)); (case h3 => exact ofNe (by k_ne)); (case h4 => exact ofNe (by k_ne)); (case U => k_updF); (case U2 => (intro o9'; (try dsimp only); k_updF))); (intro T9 t9 u9 x9 ox9 y9 oy9 h9 tk9 S8 S9 hC9 hD9 F9 N9 hf9 ho1 ho2 ho3 ho4 hv8 hv9); (try dsimp only [List.cons_append, List.nil_append] at N9)) | ((with_reducible show wpAny _ _ (call (Value.ref 70) _) _ _ _); (refine' use_two_pair (c_idk _ _ 1 _ rfl ?er _ _ ?ha _ _ _ _ _ _ ?S ?S2 ?h1 ?h2 ?h3 ?h4) ?hs ?B ?F ?X ?N ?T ?hk ?hd ?hu ?U ?U2 ?_; (case S => with_reducible assumption); (case S2 => with_reducible assumption); (case N => k_asm); (case hs => exact subC (by k_mem) (subC (by k_mem) (subC (by k_mem) (subC (by k_mem) sub0)))); (case B => k_asm); (case F => k_asm); (case X => k_asm); (case T => k_asm); (case hk => first | exact rfl | assumption); (case hd => first | ktr_room | omega); (case hu => first | ktr_units | omega); (case er => omega); (case ha => omega); (case h1 => exact ofNe (by k_ne)); (case h2 => exact ofNe (by k_ne)); (case h3 => exact ofNe (by k_ne)); (case h4 => exact ofNe (by k_ne)); (case U => k_updF); (case U2 => (intro o9'; (try dsimp only); k_updF))); (intro T9 t9 u9 x9 ox9 y9 oy9 h9 tk9 S8 S9 hC9 hD9 F9 N9 hf9 ho1 ho2 ho3 ho4 hv8 hv9); (try dsimp only [List.cons_append, List.nil_append] at N9)) | ((with_reducible show wpAny _ _ (call (Value.ref 70) _) _ _ _); (refine' use_two_pair (c_idk _ _ 2 _ rfl ?er _ _ ?ha _ _ _ _ _ _ ?S ?S2 ?h1 ?h2 ?h3 ?h4) ?hs ?B ?F ?X ?N ?T ?hk ?hd ?hu ?U ?U2 ?_; (case S => with_reducible assumption); (case S2 => with_reducible assumption); (case N => k_asm); (case hs => exact subC (by k_mem) (subC (by k_mem) (subC (by k_mem) (subC (by k_mem) sub0)))); (case B => k_asm); (case F => k_asm); (case X => k_asm); (case T => k_asm); (case hk => first | exact rfl | assumption); (case hd => first | ktr_room | omega); (case hu => first | ktr_units | omega); (case er => omega); (case ha => omega); (case h1 => exact ofNe (by k_ne)); (case h2 => exact ofNe (by k_ne)); (case h3 => exact ofNe (by k_ne)); (case h4 => exact ofNe (by k_ne)); (case U => k_updF); (case U2 => (intro o9'; (try dsimp only); k_updF))); (intro T9 t9 u9 x9 ox9 y9 oy9 h9 tk9 S8 S9 hC9 hD9 F9 N9 hf9 ho1 ho2 ho3 ho4 hv8 hv9); (try dsimp only [List.cons_append, List.nil_append] at N9)) | ((with_reducible show wpAny _ _ (call (Value.ref 70) _) _ _ _); (refine' use_two_pair (c_idk _ _ _ _ rfl rfl _ _ ?ha _ _ _ _ _ _ ?S ?S2 ?h1 ?h2 ?h3 ?h4) ?hs ?B ?F ?X ?N ?T ?hk ?hd ?hu ?U ?U2 ?_; (case S => with_reducible assumption); (case S2 => with_reducible assumption); (case N => k_asm); (case hs => exact subC (by k_mem) (subC (by k_mem) (subC (by k_mem) (subC (by k_mem) sub0)))); (case B => k_asm); (case F => k_asm); (case X => k_asm); (case T => k_asm); (case hk => first | exact rfl | assumption); (case hd => first | ktr_room | omega); (case hu => first | ktr_units | omega); (case ha => omega); (case h1 => exact ofNe (by k_ne)); (case h2 => exact ofNe (by k_ne)); (case h3 => exact ofNe (by k_ne)); (case h4 => exact ofNe (by k_ne)); (case U => k_updF); (case U2 => (intro o9'; (try dsimp only); k_updF))); (intro T9 t9 u9 x9 ox9 y9 oy9 h9 tk9 S8 S9 hC9 hD9 F9 N9 hf9 ho1 ho2 ho3 ho4 hv8 hv9); (try dsimp only [List.cons_append, List.nil_append] at N9)) | ((with_reducible show wpAny _ _ (call (Value.ref 97) _) _ _ _); (refine' use_int (c_bl2e _ 0 _ _ _ _ _ _ _ _ ?huv ?he) ?hs ?B ?F ?X ?N ?T ?hk ?hd ?hu ?_; (case N => k_asm); (case hs => exact subC (by k_mem) sub0); (case B => k_asm); (case F => k_asm); (case X => k_asm); (case T => k_asm); (case hk => first | exact rfl | assumption); (case hd => first | ktr_room | omega); (case hu => first | ktr_units | omega); (case huv => omega); (case he => (unfold bl2v; (repeat' split) <;> omega))); (intro t9 h9 tk9 F9 N9)) | ((with_reducible show wpAny _ _ (call (Value.ref 97) _) _ _ _); (refine' use_int (c_bl2e _ 1 _ _ _ _ _ _ _ _ ?huv ?he) ?hs ?B ?F ?X ?N ?T ?hk ?hd ?hu ?_; (case N => k_asm); (case hs => exact subC (by k_mem) sub0); (case B => k_asm); (case F => k_asm); (case X => k_asm); (case T => k_asm); (case hk => first | exact rfl | assumption); (case hd => first | ktr_room | omega); (case hu => first | ktr_units | omega); (case huv => omega); (case he => (unfold bl2v; (repeat' split) <;> omega))); (intro t9 h9 tk9 F9 N9)) | ((with_reducible show wpAny _ _ (call (Value.ref 97) _) _ _ _); (refine' use_int (c_bl2e _ 2 _ _ _ _ _ _ _ _ ?huv ?he) ?hs ?B ?F ?X ?N ?T ?hk ?hd ?hu ?_; (case N => k_asm); (case hs => exact subC (by k_mem) sub0); (case B => k_asm); (case F => k_asm); (case X => k_asm); (case T => k_asm); (case hk => first | exact rfl | assumption); (case hd => first | ktr_room | omega); (case hu => first | ktr_units | omega); (case huv => omega); (case he => (unfold bl2v; (repeat' split) <;> omega))); (intro t9 h9 tk9 F9 N9)) | ((with_reducible show wpAny _ _ (call (Value.ref 49) _) _ _ _); (refine' use_one_bits (c_i2_1 _ _ _ _ ?ha _ _ _ ?S ?hx) ?hs ?B ?F ?X ?N ?T ?hk ?hd ?hu ?U ?_; (case S => with_reducible assumption); (case N => k_asm); (case hs => exact subC (by k_mem) (subC (by k_mem) sub0)); (case B => k_asm); (case F => k_asm); (case X => k_asm); (case T => k_asm); (case hk => first | exact rfl | assumption); (case hd => first | ktr_room | omega); (case hu => first | ktr_units | omega); (case ha => omega); (case hx => exact ofNe (by k_ne)); (case U => k_updF)); (intro D9 vs9 n9 x9 ox9 h9 tk9 hI9 S8 hC9 F9 N9 hf9 ho9 hv9); (try dsimp only [List.cons_append, List.nil_append] at N9))); (try dsimp only); (try k_fold))))
    | (refine Stk.mk (k := 28) ?_; with_reducible ((k_here; k_dflt (refine' r_add_bits ?hb ?F ?N ?m ?z ?_; (case hb => with_reducible assumption); (case F => k_asm); (case N => k_asm); (case m => k_mem); (case z => k_mem)); (intro D8 t80 t81 t82 rs8 h8 F8 N8 l8); (try k_lt l8)))))))
  all_goals (refine' hret _ ([(_, _)] ++ [_, (_, _), (x', ox), _, (_, _), (y', oy)]) _ _ _ ⟨[(_, _)], _, _, _, _, ?kp, ?c1, ?c2, rfl, ?kf, ⟨?o1, ?o2⟩, ?o3, ?o4⟩ ?F ?N; (case F => k_asm); (case c1 => with_reducible assumption); (case c2 => with_reducible assumption); (case N => exact news_sub (by k_asm) (subC (by k_mem) (subC (by k_mem) (subC (by k_mem) (subC (by k_mem) (subC (by k_mem) (subC (by k_mem) (subC (by k_mem) sub0)))))))); (case kp => first | exact mk_hs rfl (wmsg_n (by omega) (by omega) (by omega)) | exact mk_hs rfl (wmsg_y (by omega) (by omega) (by omega))); (case kf => exact fresh4 (by omega) (by omega) (by omega) (by omega)); (case o1 => exact ofNe (by k_ne)); (case o2 => exact ofNe (by k_ne)); (case o3 => exact ofNe (by k_ne)); (case o4 => exact ofNe (by k_ne)))
set_option maxHeartbeats 8000000 in
theorem c_wri1 (w : World) (a b c : Nat) (vv : Nat) (tx tv : Tok) (ha : isLetter a = true) (hb : isLetter b = true) (hc : isLetter c = true) (x y z : Int) (hx : ((lowL a : Nat) : Int) - 97 = x) (hy : ((lowL b : Nat) : Int) - 97 = y) (hz : ((lowL c : Nat) : Int) - 97 = z) (hxy : x ≠ y) (p q r : Int) (he : ins3 x y z = [p, q, r]) (h0 : 0 ≤ p) (h1 : p < q) (h2 : q < r) (h3 : r < 26) (hi : (p + q + r) % 3 = 1)
    (o1 : Obj) (x' : Addr) (ox : Obj) (o2 : Obj) (y' : Addr) (oy : Obj) (S1 : St 44 80 4 q1 o1 x' ox) (S2 : St 51 95 4 q2 o2 y' oy) (hx1 : @LT.lt Nat _ x' 44 ∨ @LT.lt Nat _ 44 x') (hx2 : @LT.lt Nat _ x' 51 ∨ @LT.lt Nat _ 51 x') (hy1 : @LT.lt Nat _ y' 44 ∨ @LT.lt Nat _ 44 y') (hy2 : @LT.lt Nat _ y' 51 ∨ @LT.lt Nat _ 51 y') :
    Core w 190 22 [(44, o1), (x', ox), (51, o2), (y', oy)] [.str ⟨#[a, b, c]⟩ tx, .str ⟨#[vv]⟩ tv] (tab2R x' ox y' oy (isHS q (wmsg ((q - 1) / 3) p r vv))) := by
  first | k_dflt ((refine' core_plain ?zho ?zhcd ?zhb ?zhl ?zhdep ?zhcell ?zhco ?zhgen ?zhk ?_; (case zho => k_is); (case zhcd => k_is); (case zhcell => decide); (case zhb => exact fun _ => rfl); (case zhl => exact locs rfl); (case zhdep => decide); (case zhco => exact rfl); (case zhgen => exact rfl); (case zhk => exact rfl); k_whole)) | k_dflt ((refine' core_cells ?zho ?zhcd ?zhb ?zhki ?zhnd ?zhdep ?zhco ?zhgen ?zhk ?_; (case zho => k_is); (case zhcd => k_is); (case zhb => exact fun _ => rfl); (case zhki => exact rfl); (case zhnd => decide +kernel); (case zhdep => decide); (case zhco => exact rfl); (case zhgen => exact rfl); (case zhk => exact rfl); k_whole)) | fail "enter"
  intro p' loose mean mg mb dp un gd cn cs a' ccd cl outer L base g L' cells s Qf Er F N Y hlt B X T hk hd hu hret
  k_lt hlt
  k_cells Y
  simp only [List.cons_append, List.nil_append] at N
  replace hx1 := toNe hx1
  replace hx2 := toNe hx2
  replace hy1 := toNe hy1
  replace hy2 := toNe hy2
  have bp : 0 ≤ p ∧ p < 26 := ⟨h0, by omega⟩
  have bq : 0 ≤ q ∧ q < 26 := ⟨by omega, by omega⟩
  have br : 0 ≤ r ∧ r < 26 := ⟨by omega, h3⟩
  repeat' ((first | (k_unfold; (try dsimp only)) | (k_end; kc_close) | walk1 | (dsimp only; walk1) | (leave1; walk_say "STEP leave1"; (try dsimp only)) | fail "no step") <;> (repeat' (first
    | (refine Stk.mk (k := 21) ?_; with_reducible ((k_here; (with_reducible show wpAny _ _ (call (Value.builtin "chr") [Value.int _ _]) _ _ _); (refine' r_chr ?k1 ?k2 ?_; (case k1 => first | exact (w_chr (by with_reducible assumption)).1 | omega); (case k2 => first | exact (w_chr (by with_reducible assumption)).2 | omega)))))
    | (refine Stk.mk (k := 19) ?_; with_reducible ((with_unfolding_all first | (refine LCt.CompRestT.succ ?_; intro v' I' oI' C' oC' D' m' h' tk' E' hv' hC' hx' F' N' off' ne'; (first | lcg_open hv' | (obtain ⟨t9', hv9'⟩ := hv'; subst hv9')); (have o1' := (off3_split off').1); (have o2' := (off3_split off').2.1); (have o3' := (off3_split off').2.2); (clear off'); (have n1' := (ne3_split ne').1); (have n2' := (ne3_split ne').2.1); (have n3' := (ne3_split ne').2.2); (clear ne')) | refine LCt.CompRestT.zero ?_)))
    | (refine Stk.mk (k := 22) ?_; with_reducible ((with_unfolding_all first | (refine LCg.CompRest.succ ?_; intro v' I' oI' C' oC' D' m' h' tk' E' hv' hC' hx' F' N' off' ne'; (first | lcg_open hv' | (obtain ⟨t9', hv9'⟩ := hv'; subst hv9')); (have o1' := (off3_split off').1); (have o2' := (off3_split off').2.1); (have o3' := (off3_split off').2.2); (clear off'); (have n1' := (ne3_split ne').1); (have n2' := (ne3_split ne').2.1); (have n3' := (ne3_split ne').2.2); (clear ne')) | refine LCg.CompRest.zero ?_)))
    | (refine Stk.mk (k := 23) ?_; with_reducible (((unfold LCg.FinE); intro D' h' tk' F' N' o1'; (replace o1' := off1_split o1'); (try simp only [List.nil_append, List.cons_append] at N'); (try dsimp only))))
    | (refine Stk.mk (k := 24) ?_; with_reducible (((unfold LCg.FinA); intro D' h' tk' F' N' o1'; (replace o1' := off1_split o1'); (try simp only [List.nil_append, List.cons_append] at N'); (try dsimp only))))
    | (refine Stk.mk (k := 25) ?_; with_reducible ((k_here; (with_reducible show wpAny _ _ (subscriptTail _ _ (Value.ref _) (Value.int _ _)) _ _ _); k_dflt (first | (refine' r_li0 ?e ?N ?m ?_ ?s; (case e => decide); (case N => k_asm); (case m => k_mem); (case s => with_unfolding_all rfl)) | (refine' r_li1 ?e ?N ?m ?_ ?s; (case e => decide); (case N => k_asm); (case m => k_mem); (case s => with_unfolding_all rfl)) | (refine' r_li2 ?e ?N ?m ?_ ?s; (case e => decide); (case N => k_asm); (case m => k_mem); (case s => with_unfolding_all rfl))))))
    | (refine Stk.mk (k := 13) ?_; with_reducible ((k_here; (with_reducible show wpAny _ _ (subscriptTail _ _ (Value.ref _) (Value.int _ _)) _ _ _); k_dflt (first | (refine' r_li0 ?e ?N ?m ?_ ?s; (case e => decide); (case N => k_asm); (case m => k_mem); (case s => with_unfolding_all rfl)) | (refine' r_li1 ?e ?N ?m ?_ ?s; (case e => decide); (case N => k_asm); (case m => k_mem); (case s => with_unfolding_all rfl)) | (refine' r_li2 ?e ?N ?m ?_ ?s; (case e => decide); (case N => k_asm); (case m => k_mem); (case s => with_unfolding_all rfl))))))
    | (refine Stk.mk (k := 15) ?_; first | with_reducible ((k_here; lct_look; k_dflt (refine LCt.ListComp_T (F₀ := by k_asm) (by with_unfolding_all rfl) (by decide) (by rfl) (by decide) (by rfl) ?_); k_dflt lct_toSrc)) | with_reducible ((k_here; k_dflt (refine LCg.ListComp_U (F₀ := by k_asm) (by with_unfolding_all rfl) (by decide) (by rfl) (by decide) (by rfl) ?_); k_dflt lcg_toSrc)))
    | (refine Stk.mk (k := 26) ?_; first | with_reducible ((k_here; lct_look; k_dflt (refine wpAny_Assign_Name ?_ (by with_unfolding_all rfl)))) | with_reducible ((k_here; k_dflt (refine LCg.Assign_ListComp_U (F₀ := by k_asm) (by rfl) (by with_unfolding_all rfl) (by with_unfolding_all rfl) (by decide) (by rfl) (by decide) (by rfl) (by rfl) (by rfl) ?_); k_dflt lcg_toSrc)))
    | (refine Stk.mk (k := 16) ?_; with_reducible ((k_here; k_dflt (first | (refine LCg.CompSrc.ledger (by rfl) (by k_asm) (by k_asm) (by k_mem) (by first | exact Nat.le_of_ble_eq_true rfl | size_fits) ?_; intro g'; lcg_lit) | (refine LCg.CompSrc.range (by rfl) (by k_asm) (by k_asm) (by assumption) (by first | decide | rfl) (by first | rfl | decide) (by first | exact Nat.le_of_ble_eq_true rfl | size_fits) ?_; intro g'; lcg_lit)))))
    | (refine Stk.mk (k := 27) ?_; with_reducible ((k_here; k_dflt (refine LCt.CompSrcT.ledger (by rfl) (by k_asm) (by k_asm) (by k_mem) (by exact Nat.le_of_ble_eq_true rfl) ?_; intro g'; lct_lit))))
    | (refine Stk.mk (k := 1) ?_; with_reducible ((k_here; k_dflt (first | ((with_reducible show wpAny _ _ (call (Value.ref 185) _) _ _ _); (refine' use_ints (c_num3e _ _ _ _ _ ?l1 ?l2 ?l3 _ _ _ ?k1 ?k2 ?k3 ?k4 _ _ _ ?k5) ?hs ?B ?F ?X ?N ?T ?hk ?hd ?hu ?_; (case l1 => with_reducible assumption); (case l2 => with_reducible assumption); (case l3 => with_reducible assumption); (case k1 => with_reducible assumption); (case k2 => with_reducible assumption); (case k3 => with_reducible assumption); (case k4 => with_reducible assumption); (case k5 => with_reducible assumption); (case N => k_asm); (case hs => exact sub0); (case B => k_asm); (case F => k_asm); (case X => k_asm); (case T => k_asm); (case hk => first | exact rfl | assumption); (case hd => first | ktr_room | omega); (case hu => first | ktr_units | omega)); (intro D9 ws9 n9 h9 tk9 hI9 F9 N9 l9); (obtain ⟨t1, t2, t3, g9⟩ := ints_3 hI9); (subst g9); (clear hI9)) | ((with_reducible show wpAny _ _ (call (Value.ref 70) _) _ _ _); (refine' use_two_pair (c_idk _ _ 0 _ rfl ?er _ _ ?ha _ _ _ _ _ _ ?S ?S2 ?h1 ?h2 ?h3 ?h4) ?hs ?B ?F ?X ?N ?T ?hk ?hd ?hu ?U ?U2 ?_; (case S => with_reducible assumption); (case S2 => with_reducible assumption); (case N => k_asm); (case hs => exact subC (by k_mem) (subC (by k_mem) (subC (by k_mem) (subC (by k_mem) sub0)))); (case B => k_asm); (case F => k_asm); (case X => k_asm); (case T => k_asm); (case hk => first | exact rfl | assumption); (case hd => first | ktr_room | omega); (case hu => first | ktr_units | omega); (case er => omega); (case ha => omega); (case h1 => exact ofNe (by k_ne)); (case h2 => exact ofNe (by k_ne)); (case h3 => exact ofNe (by k_ne)); (case h4 => exact ofNe (by k_ne)); (case U => k_updF); (case U2 => (intro o9'; (try dsimp only); k_updF))); (intro T9 t9 u9 x9 ox9 y9 oy9 h9 tk9 S8 S9 hC9 hD9 F9 N9 hf9 ho1 ho2 ho3 ho4 hv8 hv9); (try dsimp only [List.cons_append, List.nil_append] at N9)) | ((with_reducible show wpAny _ _ (call (Value.ref 70) _) _ _ _); (refine' use_two_pair (c_idk _ _ 1 _ rfl ?er _ _ ?ha _ _ _ _ _ _ ?S ?S2 ?h1 ?h2 ?h3 ?h4) ?hs ?B ?F ?X ?N ?T ?hk ?hd ?hu ?U ?U2 ?_; (case S => with_reducible assumption); (case S2 => with_reducible assumption); (case N => k_asm); (case hs => exact subC (by k_mem) (subC (by k_mem) (subC (by k_mem) (subC (by k_mem) sub0)))); (case B => k_asm); (case F => k_asm); (case X => k_asm); (case T => k_asm); (case hk => first | exact rfl | assumption); (case hd => first | ktr_room | omega); (case hu => first | ktr_units | omega); (case er => omega); (case ha => omega); (case h1 => exact ofNe (by k_ne)); (case h2 => exact ofNe (by k_ne)); (case h3 => exact ofNe (by k_ne)); (case h4 => exact ofNe (by k_ne)); (case U => k_updF); (case U2 => (intro o9'; (try dsimp only); k_updF))); (intro T9 t9 u9 x9 ox9 y9 oy9 h9 tk9 S8 S9 hC9 hD9 F9 N9 hf9 ho1 ho2 ho3 ho4 hv8 hv9); (try dsimp only [List.cons_append, List.nil_append] at N9)) | ((with_reducible show wpAny _ _ (call (Value.ref 70) _) _ _ _); (refine' use_two_pair (c_idk _ _ 2 _ rfl ?er _ _ ?ha _ _ _ _ _ _ ?S ?S2 ?h1 ?h2 ?h3 ?h4) ?hs ?B ?F ?X ?N ?T ?hk ?hd ?hu ?U ?U2 ?_; (case S => with_reducible assumption); (case S2 => with_reducible assumption); (case N => k_asm); (case hs => exact subC (by k_mem) (subC (by k_mem) (subC (by k_mem) (subC (by k_mem) sub0)))); (case B => k_asm); (case F => k_asm); (case X => k_asm); (case T => k_asm); (case hk => first | exact rfl | assumption); (case hd => first | ktr_room | omega); (case hu => first | ktr_units | omega); (case er => omega); (case ha => omega); (case h1 => exact ofNe (by k_ne)); (case h2 => exact ofNe (by k_ne)); (case h3 => exact ofNe (by k_ne)); (case h4 => exact ofNe (by k_ne)); (case U => k_updF); (case U2 => (intro o9'; (try dsimp only); k_updF))); (intro T9 t9 u9 x9 ox9 y9 oy9 h9 tk9 S8 S9 hC9 hD9 F9 N9 hf9 ho1 ho2 ho3 ho4 hv8 hv9); (try dsimp only [List.cons_append, List.nil_append] at N9)) | ((with_reducible show wpAny _ _ (call (Value.ref 70) _) _ _ _); (refine' use_two_pair (c_idk _ _ _ _ rfl rfl _ _ ?ha _ _ _ _ _ _ ?S ?S2 ?h1 ?h2 ?h3 ?h4) ?hs ?B ?F ?X ?N ?T ?hk ?hd ?hu ?U ?U2 ?_; (case S => with_reducible assumption); (case S2 => with_reducible assumption); (case N => k_asm); (case hs => exact subC (by k_mem) (subC (by k_mem) (subC (by k_mem) (subC (by k_mem) sub0)))); (case B => k_asm); (case F => k_asm); (case X => k_asm); (case T => k_asm); (case hk => first | exact rfl | assumption); (case hd => first | ktr_room | omega); (case hu => first | ktr_units | omega); (case ha => omega); (case h1 => exact ofNe (by k_ne)); (case h2 => exact ofNe (by k_ne)); (case h3 => exact ofNe (by k_ne)); (case h4 => exact ofNe (by k_ne)); (case U => k_updF); (case U2 => (intro o9'; (try dsimp only); k_updF))); (intro T9 t9 u9 x9 ox9 y9 oy9 h9 tk9 S8 S9 hC9 hD9 F9 N9 hf9 ho1 ho2 ho3 ho4 hv8 hv9); (try dsimp only [List.cons_append, List.nil_append] at N9)) | ((with_reducible show wpAny _ _ (call (Value.ref 97) _) _ _ _); (refine' use_int (c_bl2e _ 0 _ _ _ _ _ _ _ _ ?huv ?he) ?hs ?B ?F ?X ?N ?T ?hk ?hd ?hu ?_; (case N => k_asm); (case hs => exact subC (by k_mem) sub0); (case B => k_asm); (case F => k_asm); (case X => k_asm); (case T => k_asm); (case hk => first | exact rfl | assumption); (case hd => first | ktr_room | omega); (case hu => first | ktr_units | omega); (case huv => omega); (case he => (unfold bl2v; (repeat' split) <;> omega))); (intro t9 h9 tk9 F9 N9)) | ((with_reducible show wpAny _ _ (call (Value.ref 97) _) _ _ _); (refine' use_int (c_bl2e _ 1 _ _ _ _ _ _ _ _ ?huv ?he) ?hs ?B ?F ?X ?N ?T ?hk ?hd ?hu ?_; (case N => k_asm); (case hs => exact subC (by k_mem) sub0); (case B => k_asm); (case F => k_asm); (case X => k_asm); (case T => k_asm); (case hk => first | exact rfl | assumption); (case hd => first | ktr_room | omega); (case hu => first | ktr_units | omega); (case huv => omega); (case he => (unfold bl2v; (repeat' split) <;> omega))); (intro t9 h9 tk9 F9 N9)) | ((with_reducible show wpAny _ _ (call (Value.ref 97) _) _ _ _); (refine' use_int (c_bl2e _ 2 _ _ _ _ _ _ _ _ ?huv ?he) ?hs ?B ?F ?X ?N ?T ?hk ?hd ?hu ?_; (case N => k_asm); (case hs => exact subC (by k_mem) sub0); (case B => k_asm); (case F => k_asm); (case X => k_asm); (case T => k_asm); (case hk => first | exact rfl | assumption); (case hd => first | ktr_room | omega); (case hu => first | ktr_units | omega); (case huv => omega); (case he => (unfold bl2v; (repeat' split) <;> omega))); (intro t9 h9 tk9 F9 N9)) | ((with_reducible show wpAny _ _ (call (Value.ref 49) _) _ _ _); (refine' use_one_bits (c_i2_1 _ _ _ _ ?ha _ _ _ ?S ?hx) ?hs ?B ?F ?X ?N ?T ?hk ?hd ?hu ?U ?_; (case S => with_reducible assumption); (case N => k_asm); (case hs => exact subC (by k_mem) (subC (by k_mem) sub0)); (case B => k_asm); (case F => k_asm); (case X => k_asm); (case T => k_asm); (case hk => first | exact rfl | assumption); (case hd => first | ktr_room | omega); (case hu => first | ktr_units | omega); (case ha => omega); (case hx => exact ofNe (by k_ne)); (case U => k_updF)); (intro D9 vs9 n9 x9 ox9 h9 tk9 hI9 S8 hC9 F9 N9 hf9 ho9 hv9); (try dsimp only [List.cons_append, List.nil_append] at N9))); (try dsimp only); (try k_fold))))
    | (refine Stk.mk (k := 28) ?_; with_reducible ((k_here; k_dflt (refine' r_add_bits ?hb ?F ?N ?m ?z ?_; (case hb => with_reducible assumption); (case F => k_asm); (case N => k_asm); (case m => k_mem); (case z => k_mem)); (intro D8 t80 t81 t82 rs8 h8 F8 N8 l8); (try k_lt l8)))))))
  all_goals (refine' hret _ ([(_, _)] ++ [_, (_, _), (x', ox), _, (_, _), (y', oy)]) _ _ _ ⟨[(_, _)], _, _, _, _, ?kp, ?c1, ?c2, rfl, ?kf, ⟨?o1, ?o2⟩, ?o3, ?o4⟩ ?F ?N; (case F => k_asm); (case c1 => with_reducible assumption); (case c2 => with_reducible assumption); (case N => exact news_sub (by k_asm) (subC (by k_mem) (subC (by k_mem) (subC (by k_mem) (subC (by k_mem) (subC (by k_mem) (subC (by k_mem) (subC (by k_mem) sub0)))))))); (case kp => first | exact mk_hs rfl (wmsg_n (by omega) (by omega) (by omega)) | exact mk_hs rfl (wmsg_y (by omega) (by omega) (by omega))); (case kf => exact fresh4 (by omega) (by omega) (by omega) (by omega)); (case o1 => exact ofNe (by k_ne)); (case o2 => exact ofNe (by k_ne)); (case o3 => exact ofNe (by k_ne)); (case o4 => exact ofNe (by k_ne)))
set_option maxHeartbeats 8000000 in
theorem c_wri2 (w : World) (a b c : Nat) (vv : Nat) (tx tv : Tok) (ha : isLetter a = true) (hb : isLetter b = true) (hc : isLetter c = true) (x y z : Int) (hx : ((lowL a : Nat) : Int) - 97 = x) (hy : ((lowL b : Nat) : Int) - 97 = y) (hz : ((lowL c : Nat) : Int) - 97 = z) (hxy : x ≠ y) (p q r : Int) (he : ins3 x y z = [p, q, r]) (h0 : 0 ≤ p) (h1 : p < q) (h2 : q < r) (h3 : r < 26) (hi : (p + q + r) % 3 = 2)
    (o1 : Obj) (x' : Addr) (ox : Obj) (o2 : Obj) (y' : Addr) (oy : Obj) (S1 : St 44 80 4 q1 o1 x' ox) (S2 : St 51 95 4 q2 o2 y' oy) (hx1 : @LT.lt Nat _ x' 44 ∨ @LT.lt Nat _ 44 x') (hx2 : @LT.lt Nat _ x' 51 ∨ @LT.lt Nat _ 51 x') (hy1 : @LT.lt Nat _ y' 44 ∨ @LT.lt Nat _ 44 y') (hy2 : @LT.lt Nat _ y' 51 ∨ @LT.lt Nat _ 51 y') :
    Core w 190 22 [(44, o1), (x', ox), (51, o2), (y', oy)] [.str ⟨#[a, b, c]⟩ tx, .str ⟨#[vv]⟩ tv] (tab2R x' ox y' oy (isHS r (wmsg ((r - 2) / 3) p q vv))) := by
  first | k_dflt ((refine' core_plain ?zho ?zhcd ?zhb ?zhl ?zhdep ?zhcell ?zhco ?zhgen ?zhk ?_; (case zho => k_is); (case zhcd => k_is); (case zhcell => decide); (case zhb => exact fun _ => rfl); (case zhl => exact locs rfl); (case zhdep => decide); (case zhco => exact rfl); (case zhgen => exact rfl); (case zhk => exact rfl); k_whole)) | k_dflt ((refine' core_cells ?zho ?zhcd ?zhb ?zhki ?zhnd ?zhdep ?zhco ?zhgen ?zhk ?_; (case zho => k_is); (case zhcd => k_is); (case zhb => exact fun _ => rfl); (case zhki => exact rfl); (case zhnd => decide +kernel); (case zhdep => decide); (case zhco => exact rfl); (case zhgen => exact rfl); (case zhk => exact rfl); k_whole)) | fail "enter"
  intro p' loose mean mg mb dp un gd cn cs a' ccd cl outer L base g L' cells s Qf Er F N Y hlt B X T hk hd hu hret
  k_lt hlt
  k_cells Y
  simp only [List.cons_append, List.nil_append] at N
  replace hx1 := toNe hx1
  replace hx2 := toNe hx2
  replace hy1 := toNe hy1
  replace hy2 := toNe hy2
  have bp : 0 ≤ p ∧ p < 26 := ⟨h0, by omega⟩
  have bq : 0 ≤ q ∧ q < 26 := ⟨by omega, by omega⟩
  have br : 0 ≤ r ∧ r < 26 := ⟨by omega, h3⟩
  repeat' ((first | (k_unfold; (try dsimp only)) | (k_end; kc_close) | walk1 | (dsimp only; walk1) | (leave1; walk_say "STEP leave1"; (try dsimp only)) | fail "no step") <;> (repeat' (first
    | (refine Stk.mk (k := 21) ?_; with_reducible ((k_here; (with_reducible show wpAny _ _ (call (Value.builtin "chr") [Value.int _ _]) _ _ _); (refine' r_chr ?k1 ?k2 ?_; (case k1 => first | exact (w_chr (by with_reducible assumption)).1 | omega); (case k2 => first | exact (w_chr (by with_reducible assumption)).2 | omega)))))
    | (refine Stk.mk (k := 19) ?_; with_reducible ((with_unfolding_all first | (refine LCt.CompRestT.succ ?_; intro v' I' oI' C' oC' D' m' h' tk' E' hv' hC' hx' F' N' off' ne'; (first | lcg_open hv' | (obtain ⟨t9', hv9'⟩ := hv'; subst hv9')); (have o1' := (off3_split off').1); (have o2' := (off3_split off').2.1); (have o3' := (off3_split off').2.2); (clear off'); (have n1' := (ne3_split ne').1); (have n2' := (ne3_split ne').2.1); (have n3' := (ne3_split ne').2.2); (clear ne')) | refine LCt.CompRestT.zero ?_)))
    | (refine Stk.mk (k := 22) ?_; with_reducible ((with_unfolding_all first | (refine LCg.CompRest.succ ?_; intro v' I' oI' C' oC' D' m' h' tk' E' hv' hC' hx' F' N' off' ne'; (first | lcg_open hv' | (obtain ⟨t9', hv9'⟩ := hv'; subst hv9')); (have o1' := (off3_split off').1); (have o2' := (off3_split off').2.1); (have o3' := (off3_split off').2.2); (clear off'); (have n1' := (ne3_split ne').1); (have n2' := (ne3_split ne').2.1); (have n3' := (ne3_split ne').2.2); (clear ne')) | refine LCg.CompRest.zero ?_)))
    | (refine Stk.mk (k := 23) ?_; with_reducible (((unfold LCg.FinE); intro D' h' tk' F' N' o1'; (replace o1' := off1_split o1'); (try simp only [List.nil_append, List.cons_append] at N'); (try dsimp only))))
    | (refine Stk.mk (k := 24) ?_; with_reducible (((unfold LCg.FinA); intro D' h' tk' F' N' o1'; (replace o1' := off1_split o1'); (try simp only [List.nil_append, List.cons_append] at N'); (try dsimp only))))
    | (refine Stk.mk (k := 25) ?_; with_reducible ((k_here; (with_reducible show wpAny _ _ (subscriptTail _ _ (Value.ref _) (Value.int _ _)) _ _ _); k_dflt (first | (refine' r_li0 ?e ?N ?m ?_ ?s; (case e => decide); (case N => k_asm); (case m => k_mem); (case s => with_unfolding_all rfl)) | (refine' r_li1 ?e ?N ?m ?_ ?s; (case e => decide); (case N => k_asm); (case m => k_mem); (case s => with_unfolding_all rfl)) | (refine' r_li2 ?e ?N ?m ?_ ?s; (case e => decide); (case N => k_asm); (case m => k_mem); (case s => with_unfolding_all rfl))))))
    | (refine Stk.mk (k := 13) ?_; with_reducible ((k_here; (with_reducible show wpAny _ _ (subscriptTail _ _ (Value.ref _) (Value.int _ _)) _ _ _); k_dflt (first | (refine' r_li0 ?e ?N ?m ?_ ?s; (case e => decide); (case N => k_asm); (case m => k_mem); (case s => with_unfolding_all rfl)) | (refine' r_li1 ?e ?N ?m ?_ ?s; (case e => decide); (case N => k_asm); (case m => k_mem); (case s => with_unfolding_all rfl)) | (refine' r_li2 ?e ?N ?m ?_ ?s; (case e => decide); (case N => k_asm); (case m => k_mem); (case s => with_unfolding_all rfl))))))
    | (refine Stk.mk (k := 15) ?_; first | with_reducible ((k_here; lct_look; k_dflt (refine LCt.ListComp_T (F₀ := by k_asm) (by with_unfolding_all rfl) (by decide) (by rfl) (by decide) (by rfl) ?_); k_dflt lct_toSrc)) | with_reducible ((k_here; k_dflt (refine LCg.ListComp_U (F₀ := by k_asm) (by with_unfolding_all rfl) (by decide) (by rfl) (by decide) (by rfl) ?_); k_dflt lcg_toSrc)))
    | (refine Stk.mk (k := 26) ?_; first | with_reducible ((k_here; lct_look; k_dflt (refine wpAny_Assign_Name ?_ (by with_unfolding_all rfl)))) | with_reducible ((k_here; k_dflt (refine LCg.Assign_ListComp_U (F₀ := by k_asm) (by rfl) (by with_unfolding_all rfl) (by with_unfolding_all rfl) (by decide) (by rfl) (by decide) (by rfl) (by rfl) (by rfl) ?_); k_dflt lcg_toSrc)))
    | (refine Stk.mk (k := 16) ?_; with_reducible ((k_here; k_dflt (first | (refine LCg.CompSrc.ledger (by rfl) (by k_asm) (by k_asm) (by k_mem) (by first | exact Nat.le_of_ble_eq_true rfl | size_fits) ?_; intro g'; lcg_lit) | (refine LCg.CompSrc.range (by rfl) (by k_asm) (by k_asm) (by assumption) (by first | decide | rfl) (by first | rfl | decide) (by first | exact Nat.le_of_ble_eq_true rfl | size_fits) ?_; intro g'; lcg_lit)))))
    | (refine Stk.mk (k := 27) ?_; with_reducible ((k_here; k_dflt (refine LCt.CompSrcT.ledger (by rfl) (by k_asm) (by k_asm) (by k_mem) (by exact Nat.le_of_ble_eq_true rfl) ?_; intro g'; lct_lit))))
    | (refine Stk.mk (k := 1) ?_; with_reducible ((k_here; k_dflt (first | ((with_reducible show wpAny _ _ (call (Value.ref 185) _) _ _ _); (refine' use_ints (c_num3e _ _ _ _ _ ?l1 ?l2 ?l3 _ _ _ ?k1 ?k2 ?k3 ?k4 _ _ _ ?k5) ?hs ?B ?F ?X ?N ?T ?hk ?hd ?hu ?_; (case l1 => with_reducible assumption); (case l2 => with_reducible assumption); (case l3 => with_reducible assumption); (case k1 => with_reducible assumption); (case k2 => with_reducible assumption); (case k3 => with_reducible assumption); (case k4 => with_reducible assumption); (case k5 => with_reducible assumption); (case N => k_asm); (case hs => exact sub0); (case B => k_asm); (case F => k_asm); (case X => k_asm); (case T => k_asm); (case hk => first | exact rfl | assumption); (case hd => first | ktr_room | omega); (case hu => first | ktr_units | omega)); (intro D9 ws9 n9 h9 tk9 hI9 F9 N9 l9); (obtain ⟨t1, t2, t3, g9⟩ := ints_3 hI9); (subst g9); (clear hI9)) | ((with_reducible show wpAny _ _ (call (Value.ref 70) _) _ _ _); (refine' use_two_pair (c_idk _ _ 0 _ rfl ?er _ _ ?ha _ _ _ _ _ _ ?S ?S2 ?h1 ?h2 ?h3 ?h4) ?hs ?B ?F ?X ?N ?T ?hk ?hd ?hu ?U ?U2 ?_; (case S => with_reducible assumption); (case S2 => with_reducible assumption); (case N => k_asm); (case hs => exact subC (by k_mem) (subC (by k_mem) (subC (by k_mem) (subC (by k_mem) sub0)))); (case B => k_asm); (case F => k_asm); (case X => k_asm); (case T => k_asm); (case hk => first | exact rfl | assumption); (case hd => first | ktr_room | omega); (case hu => first | ktr_units | omega); (case er => omega); (case ha => omega); (case h1 => exact ofNe (by k_ne)); (case h2 => exact ofNe (by k_ne)); (case h3 => exact ofNe (by k_ne)); (case h4 => exact ofNe (by k_ne)); (case U => k_updF); (case U2 => (intro o9'; (try dsimp only); k_updF))); (intro T9 t9 u9 x9 ox9 y9 oy9 h9 tk9 S8 S9 hC9 hD9 F9 N9 hf9 ho1 ho2 ho3 ho4 hv8 hv9); (try dsimp only [List.cons_append, List.nil_append] at N9)) | ((with_reducible show wpAny _ _ (call (Value.ref 70) _) _ _ _); (refine' use_two_pair (c_idk _ _ 1 _ rfl ?er _ _ ?ha _ _ _ _ _ _ ?S ?S2 ?h1 ?h2 ?h3 ?h4) ?hs ?B ?F ?X ?N ?T ?hk ?hd ?hu ?U ?U2 ?_; (case S => with_reducible assumption); (case S2 => with_reducible assumption); (case N => k_asm); (case hs => exact subC (by k_mem) (subC (by k_mem) (subC (by k_mem) (subC (by k_mem) sub0)))); (case B => k_asm); (case F => k_asm); (case X => k_asm); (case T => k_asm); (case hk => first | exact rfl | assumption); (case hd => first | ktr_room | omega); (case hu => first | ktr_units | omega); (case er => omega); (case ha => omega); (case h1 => exact ofNe (by k_ne)); (case h2 => exact ofNe (by k_ne)); (case h3 => exact ofNe (by k_ne)); (case h4 => exact ofNe (by k_ne)); (case U => k_updF); (case U2 => (intro o9'; (try dsimp only); k_updF))); (intro T9 t9 u9 x9 ox9 y9 oy9 h9 tk9 S8 S9 hC9 hD9 F9 N9 hf9 ho1 ho2 ho3 ho4 hv8 hv9); (try dsimp only [List.cons_append, List.nil_append] at N9)) | ((with_reducible show wpAny _ _ (call (Value.ref 70) _) _ _ _); (refine' use_two_pair (c_idk _ _ 2 _ rfl ?er _ _ ?ha _ _ _ _ _ _ ?S ?S2 ?h1 ?h2 ?h3 ?h4) ?hs ?B ?F ?X ?N ?T ?hk ?hd ?hu ?U ?U2 ?_; (case S => with_reducible assumption); (case S2 => with_reducible assumption); (case N => k_asm); (case hs => exact subC (by k_mem) (subC (by k_mem) (subC (by k_mem) (subC (by k_mem) sub0)))); (case B => k_asm); (case F => k_asm); (case X => k_asm); (case T => k_asm); (case hk => first | exact rfl | assumption); (case hd => first | ktr_room | omega); (case hu => first | ktr_units | omega); (case er => omega); (case ha => omega); (case h1 => exact ofNe (by k_ne)); (case h2 => exact ofNe (by k_ne)); (case h3 => exact ofNe (by k_ne)); (case h4 => exact ofNe (by k_ne)); (case U => k_updF); (case U2 => (intro o9'; (try dsimp only); k_updF))); (intro T9 t9 u9 x9 ox9 y9 oy9 h9 tk9 S8 S9 hC9 hD9 F9 N9 hf9 ho1 ho2 ho3 ho4 hv8 hv9); (try dsimp only [List.cons_append, List.nil_append] at N9)) | ((with_reducible show wpAny _ _ (call (Value.ref 70) _) _ _ _); (refine' use_two_pair (c_idk _ _ _ _ rfl rfl _ _ ?ha _ _ _ _ _ _ ?S ?S2 ?h1 ?h2 ?h3 ?h4) ?hs ?B ?F ?X ?N ?T ?hk ?hd ?hu ?U ?U2 ?_; (case S => with_reducible assumption); (case S2 => with_reducible assumption); (case N => k_asm); (case hs => exact subC (by k_mem) (subC (by k_mem) (subC (by k_mem) (subC (by k_mem) sub0)))); (case B => k_asm); (case F => k_asm); (case X => k_asm); (case T => k_asm); (case hk => first | exact rfl | assumption); (case hd => first | ktr_room | omega); (case hu => first | ktr_units | omega); (case ha => omega); (case h1 => exact ofNe (by k_ne)); (case h2 => exact ofNe (by k_ne)); (case h3 => exact ofNe (by k_ne)); (case h4 => exact ofNe (by k_ne)); (case U => k_updF); (case U2 => (intro o9'; (try dsimp only); k_updF))); (intro T9 t9 u9 x9 ox9 y9 oy9 h9 tk9 S8 S9 hC9 hD9 F9 N9 hf9 ho1 ho2 ho3 ho4 hv8 hv9); (try dsimp only [List.cons_append, List.nil_append] at N9)) | ((with_reducible show wpAny _ _ (call (Value.ref 97) _) _ _ _); (refine' use_int (c_bl2e _ 0 _ _ _ _ _ _ _ _ ?huv ?he) ?hs ?B ?F ?X ?N ?T ?hk ?hd ?hu ?_; (case N => k_asm); (case hs => exact subC (by k_mem) sub0); (case B => k_asm); (case F => k_asm); (case X => k_asm); (case T => k_asm); (case hk => first | exact rfl | assumption); (case hd => first | ktr_room | omega); (case hu => first | ktr_units | omega); (case huv => omega); (case he => (unfold bl2v; (repeat' split) <;> omega))); (intro t9 h9 tk9 F9 N9)) | ((with_reducible show wpAny _ _ (call (Value.ref 97) _) _ _ _); (refine' use_int (c_bl2e _ 1 _ _ _ _ _ _ _ _ ?huv ?he) ?hs ?B ?F ?X ?N ?T ?hk ?hd ?hu ?_; (case N => k_asm); (case hs => exact subC (by k_mem) sub0); (case B => k_asm); (case F => k_asm); (case X => k_asm); (case T => k_asm); (case hk => first | exact rfl | assumption); (case hd => first | ktr_room | omega); (case hu => first | ktr_units | omega); (case huv => omega); (case he => (unfold bl2v; (repeat' split) <;> omega))); (intro t9 h9 tk9 F9 N9)) | ((with_reducible show wpAny _ _ (call (Value.ref 97) _) _ _ _); (refine' use_int (c_bl2e _ 2 _ _ _ _ _ _ _ _ ?huv ?he) ?hs ?B ?F ?X ?N ?T ?hk ?hd ?hu ?_; (case N => k_asm); (case hs => exact subC (by k_mem) sub0); (case B => k_asm); (case F => k_asm); (case X => k_asm); (case T => k_asm); (case hk => first | exact rfl | assumption); (case hd => first | ktr_room | omega); (case hu => first | ktr_units | omega); (case huv => omega); (case he => (unfold bl2v; (repeat' split) <;> omega))); (intro t9 h9 tk9 F9 N9)) | ((with_reducible show wpAny _ _ (call (Value.ref 49) _) _ _ _); (refine' use_one_bits (c_i2_1 _ _ _ _ ?ha _ _ _ ?S ?hx) ?hs ?B ?F ?X ?N ?T ?hk ?hd ?hu ?U ?_; (case S => with_reducible assumption); (case N => k_asm); (case hs => exact subC (by k_mem) (subC (by k_mem) sub0)); (case B => k_asm); (case F => k_asm); (case X => k_asm); (case T => k_asm); (case hk => first | exact rfl | assumption); (case hd => first | ktr_room | omega); (case hu => first | ktr_units | omega); (case ha => omega); (case hx => exact ofNe (by k_ne)); (case U => k_updF)); (intro D9 vs9 n9 x9 ox9 h9 tk9 hI9 S8 hC9 F9 N9 hf9 ho9 hv9); (try dsimp only [List.cons_append, List.nil_append] at N9))); (try dsimp only); (try k_fold))))
    | (refine Stk.mk (k := 28) ?_; with_reducible ((k_here; k_dflt (refine' r_add_bits ?hb ?F ?N ?m ?z ?_; (case hb => with_reducible assumption); (case F => k_asm); (case N => k_asm); (case m => k_mem); (case z => k_mem)); (intro D8 t80 t81 t82 rs8 h8 F8 N8 l8); (try k_lt l8)))))))
  all_goals (refine' hret _ ([(_, _)] ++ [_, (_, _), (x', ox), _, (_, _), (y', oy)]) _ _ _ ⟨[(_, _)], _, _, _, _, ?kp, ?c1, ?c2, rfl, ?kf, ⟨?o1, ?o2⟩, ?o3, ?o4⟩ ?F ?N; (case F => k_asm); (case c1 => with_reducible assumption); (case c2 => with_reducible assumption); (case N => exact news_sub (by k_asm) (subC (by k_mem) (subC (by k_mem) (subC (by k_mem) (subC (by k_mem) (subC (by k_mem) (subC (by k_mem) (subC (by k_mem) sub0)))))))); (case kp => first | exact mk_hs rfl (wmsg_n (by omega) (by omega) (by omega)) | exact mk_hs rfl (wmsg_y (by omega) (by omega) (by omega))); (case kf => exact fresh4 (by omega) (by omega) (by omega) (by omega)); (case o1 => exact ofNe (by k_ne)); (case o2 => exact ofNe (by k_ne)); (case o3 => exact ofNe (by k_ne)); (case o4 => exact ofNe (by k_ne)))
end
section
theorem fill_Rd : K = K ∧ PySem.Challenge.rw_sn0097_01 = PySem.Challenge.rw_sn0097_01 := by k_fill; exact ⟨rfl, rfl⟩
noncomputable def rd (k u v : Int) : Int := 3 * k + -(u + (v + 0)) % 3 + br2v u (v - 1) (3 * k + -(u + (v + 0)) % 3)
theorem c_idk' (w : World) (q r a : Int) (eq : a / 3 = q) (er : a % 3 = r) (ta tb : Tok) (ha : -256 ≤ a ∧ a < 256) (o1 : Obj) (x : Addr) (ox : Obj) (o2 : Obj) (y : Addr) (oy : Obj) (S1 : St 44 80 4 q1 o1 x ox) (S2 : St 51 95 4 q2 o2 y oy) (hx1 : @LT.lt Nat _ x 44 ∨ @LT.lt Nat _ 44 x) (hx2 : @LT.lt Nat _ x 51 ∨ @LT.lt Nat _ 51 x) (hy1 : @LT.lt Nat _ y 44 ∨ @LT.lt Nat _ 44 y) (hy2 : @LT.lt Nat _ y 51 ∨ @LT.lt Nat _ 51 y) :
    Core w 70 16 [(44, o1), (x, ox), (51, o2), (y, oy)] [.int a ta, .int 3 tb] (tab2R x ox y oy (isPair q r)) := by
  subst eq; subst er
  exact c_id w a ta tb ha o1 x ox o2 y oy S1 S2 hx1 hx2 hy1 hy2
theorem c_let2e (w : World) (a b c : Nat) (tx : Tok) (ha : isLetter a = true) (hb : isVeil b = true) (hc : isLetter c = true) (x y : Int) (hx : ((lowL a : Nat) : Int) - 97 = x) (hy : ((lowL c : Nat) : Int) - 97 = y) : Spec w 178 5 [] [.str ⟨#[a, b, c]⟩ tx] (isStr ⟨#[(97 + x).toNat, (97 + y).toNat]⟩) := by
  have e1 : (97 + x).toNat = lowL a := by omega
  have e2 : (97 + y).toNat = lowL c := by omega
  rw [e1, e2]
  exact c_let2 w a b c tx ha hb hc
theorem c_num2e (w : World) (a b c : Nat) (tx : Tok) (ha : isLetter a = true) (hb : isVeil b = true) (hc : isLetter c = true) (x y : Int) (hx : ((lowL a : Nat) : Int) - 97 = x) (hy : ((lowL c : Nat) : Int) - 97 = y) (p q : Int) (e : ins2 x y = [p, q]) : Spec w 185 8 [] [.str ⟨#[a, b, c]⟩ tx] (isInts [p, q]) := by
  rw [← e]; exact c_num2 w a b c tx ha hb hc x y hx hy
theorem c_sube (w : World) (x y : Nat) (tx ty : Tok) (hx : x < 128) (hy : y < 128) (s : Int) (e : subCost x y = s) : Spec w 21 3 [] [.str ⟨#[x]⟩ tx, .str ⟨#[y]⟩ ty] (isInt s) := by
  rw [← e]; exact c_sub w x y tx ty hx hy
local macro_rules | `(tactic| walk_at "binaryOp FloorDiv int int") => `(tactic| refine Stk.out (k := 6) ?_)
local macro_rules | `(tactic| walk_at "CompRest") => `(tactic| refine Stk.out (k := 22) ?_)
local macro_rules | `(tactic| walk_at "FinE") => `(tactic| refine Stk.out (k := 23) ?_)
local macro_rules | `(tactic| walk_at "subscriptTail Name Constant ref int") => `(tactic| refine Stk.out (k := 25) ?_)
local macro_rules | `(tactic| walk_at "exec Assign cons ListComp") => `(tactic| refine Stk.out (k := 26) ?_)
set_option maxHeartbeats 8000000 in
theorem c_rd0 (w : World) (a b c : Nat) (tx : Tok) (ha : isLetter a = true) (hb : isVeil b = true) (hc : isLetter c = true) (x y s1 s2 : Int) (hx : ((lowL a : Nat) : Int) - 97 = x) (hy : ((lowL c : Nat) : Int) - 97 = y) (hxy : x < y) (hx0 : 0 ≤ x ∧ x < 26) (hy0 : 0 ≤ y ∧ y < 26) (ha2 : a < 128) (hc2 : c < 128) (he : ins2 x y = [x, y]) (hs1 : subCost a (lowL a) = s1) (hs2 : subCost c (lowL c) = s2) (h1 : 0 ≤ s1 ∧ s1 < 2) (h2 : 0 ≤ s2 ∧ s2 < 2)
    (o1 : Obj) (x' : Addr) (ox : Obj) (o2 : Obj) (y' : Addr) (oy : Obj) (S1 : St 44 80 4 q1 o1 x' ox) (S2 : St 51 95 4 q2 o2 y' oy) (hx1 : @LT.lt Nat _ x' 44 ∨ @LT.lt Nat _ 44 x') (hx2 : @LT.lt Nat _ x' 51 ∨ @LT.lt Nat _ 51 x') (hy1 : @LT.lt Nat _ y' 44 ∨ @LT.lt Nat _ 44 y') (hy2 : @LT.lt Nat _ y' 51 ∨ @LT.lt Nat _ 51 y') :
    Core w 195 22 [(44, o1), (x', ox), (51, o2), (y', oy)] [.str ⟨#[a, b, c]⟩ tx] (tab2R x' ox y' oy (isInt (rd (((0 * 2 ^ 1 + s2) * 2 ^ 1 + s1)) x y))) := by
  first | k_dflt ((refine' core_plain ?zho ?zhcd ?zhb ?zhl ?zhdep ?zhcell ?zhco ?zhgen ?zhk ?_; (case zho => k_is); (case zhcd => k_is); (case zhcell => decide); (case zhb => exact fun _ => rfl); (case zhl => exact locs rfl); (case zhdep => decide); (case zhco => exact rfl); (case zhgen => exact rfl); (case zhk => exact rfl); k_whole)) | k_dflt ((refine' core_cells ?zho ?zhcd ?zhb ?zhki ?zhnd ?zhdep ?zhco ?zhgen ?zhk ?_; (case zho => k_is); (case zhcd => k_is); (case zhb => exact fun _ => rfl); (case zhki => exact rfl); (case zhnd => decide +kernel); (case zhdep => decide); (case zhco => exact rfl); (case zhgen => exact rfl); (case zhk => exact rfl); k_whole)) | fail "enter"
  intro p' loose mean mg mb dp un gd cn cs a' ccd cl outer L base g L' s Qf Er F N hlt B X T hk hd hu hret
  k_lt hlt
  replace hx1 := toNe hx1
  replace hx2 := toNe hx2
  replace hy1 := toNe hy1
  replace hy2 := toNe hy2
  repeat' ((first | (k_unfold; (try dsimp only)) | (k_end; kc_close) | walk1 | (dsimp only; walk1) | (leave1; walk_say "STEP leave1"; (try dsimp only)) | fail "no step") <;> (repeat' (first
    | (refine Stk.mk (k := 6) ?_; with_reducible ((k_here; first | (with_reducible refine r_fdl 0 (by omega) (by decide) ?_ (by omega) (by omega) (by decide)) | (with_reducible refine r_fdl 1 (by omega) (by decide) ?_ (by omega) (by omega) (by decide)))))
    | (refine Stk.mk (k := 19) ?_; first | with_reducible ((with_unfolding_all first | (refine LCt.CompRestT.succ ?_; intro v' I' oI' C' oC' D' m' h' tk' E' hv' hC' hx' F' N' off' ne'; (first | ((refine' sign3_0 hv' ?e0 ?_); (case e0 => decide)) | ((refine' sign3_1 hv' ?e0 ?_); (case e0 => decide)) | ((refine' sign3_2 hv' ?e0 ?_); (case e0 => decide)) | ((refine' sign2_0 hv' ?e0 ?_); (case e0 => decide)) | ((refine' sign2_1 hv' ?e0 ?_); (case e0 => decide))); (intro t9' hv9'); (subst hv9'); (clear hv'); (have o1' := (off3_split off').1); (have o2' := (off3_split off').2.1); (have o3' := (off3_split off').2.2); (clear off'); (have n1' := (ne3_split ne').1); (have n2' := (ne3_split ne').2.1); (have n3' := (ne3_split ne').2.2); (clear ne')) | refine LCt.CompRestT.zero ?_)) | with_reducible ((with_unfolding_all first | (refine LCt.CompRestT.succ ?_; intro v' I' oI' C' oC' D' m' h' tk' E' hv' hC' hx' F' N' off' ne'; (first | lcg_open hv' | (obtain ⟨t9', hv9'⟩ := hv'; subst hv9')); (have o1' := (off3_split off').1); (have o2' := (off3_split off').2.1); (have o3' := (off3_split off').2.2); (clear off'); (have n1' := (ne3_split ne').1); (have n2' := (ne3_split ne').2.1); (have n3' := (ne3_split ne').2.2); (clear ne')) | refine LCt.CompRestT.zero ?_)))
    | (refine Stk.mk (k := 22) ?_; with_reducible ((with_unfolding_all first | (refine LCg.CompRest.succ ?_; intro v' I' oI' C' oC' D' m' h' tk' E' hv' hC' hx' F' N' off' ne'; (first | lcg_open hv' | (obtain ⟨t9', hv9'⟩ := hv'; subst hv9')); (have o1' := (off3_split off').1); (have o2' := (off3_split off').2.1); (have o3' := (off3_split off').2.2); (clear off'); (have n1' := (ne3_split ne').1); (have n2' := (ne3_split ne').2.1); (have n3' := (ne3_split ne').2.2); (clear ne')) | refine LCg.CompRest.zero ?_)))
    | (refine Stk.mk (k := 23) ?_; with_reducible (((unfold LCg.FinE); intro D' h' tk' F' N' o1'; (replace o1' := off1_split o1'); (try simp only [List.nil_append, List.cons_append] at N'); (try dsimp only))))
    | (refine Stk.mk (k := 24) ?_; with_reducible (((unfold LCg.FinA); intro D' h' tk' F' N' o1'; (replace o1' := off1_split o1'); (try simp only [List.nil_append, List.cons_append] at N'); (try dsimp only))))
    | (refine Stk.mk (k := 25) ?_; with_reducible ((k_here; (with_reducible show wpAny _ _ (subscriptTail _ _ (Value.ref _) (Value.int _ _)) _ _ _); k_dflt (first | (refine' r_li0 ?e ?N ?m ?_ ?s; (case e => decide); (case N => k_asm); (case m => k_mem); (case s => with_unfolding_all rfl)) | (refine' r_li1 ?e ?N ?m ?_ ?s; (case e => decide); (case N => k_asm); (case m => k_mem); (case s => with_unfolding_all rfl)) | (refine' r_li2 ?e ?N ?m ?_ ?s; (case e => decide); (case N => k_asm); (case m => k_mem); (case s => with_unfolding_all rfl))))))
    | (refine Stk.mk (k := 15) ?_; first | with_reducible ((k_here; lct_look; k_dflt (refine ListComp_S (F₀ := by k_asm) (by with_unfolding_all rfl) (by decide) (by rfl) (by decide) (by rfl) ?_))) | with_reducible ((k_here; k_dflt (refine LCg.ListComp_U (F₀ := by k_asm) (by with_unfolding_all rfl) (by decide) (by rfl) (by decide) (by rfl) ?_); k_dflt lcg_toSrc)))
    | (refine Stk.mk (k := 26) ?_; first | with_reducible ((k_here; lct_look; k_dflt (refine Assign_ListComp_S (F₀ := by k_asm) (by rfl) (by with_unfolding_all rfl) (by with_unfolding_all rfl) (by decide) (by rfl) (by decide) (by rfl) (by rfl) (by rfl) ?_))) | with_reducible ((k_here; k_dflt (refine LCg.Assign_ListComp_U (F₀ := by k_asm) (by rfl) (by with_unfolding_all rfl) (by with_unfolding_all rfl) (by decide) (by rfl) (by decide) (by rfl) (by rfl) (by rfl) ?_); k_dflt lcg_toSrc)))
    | (refine Stk.mk (k := 16) ?_; with_reducible ((k_here; k_dflt (first | (refine LCg.CompSrc.ledger (by rfl) (by k_asm) (by k_asm) (by k_mem) (by first | exact Nat.le_of_ble_eq_true rfl | size_fits) ?_; intro g'; lcg_lit) | (refine LCg.CompSrc.range (by rfl) (by k_asm) (by k_asm) (by assumption) (by first | decide | rfl) (by first | rfl | decide) (by first | exact Nat.le_of_ble_eq_true rfl | size_fits) ?_; intro g'; lcg_lit)))))
    | (refine Stk.mk (k := 18) ?_; with_reducible ((k_here; k_dflt (first | (refine CompSrcS.mk (n := 3) (by rfl) (by rfl) (by k_asm) (by k_asm) (by decide) ?_; intro g') | (refine CompSrcS.mk (n := 2) (by rfl) (by rfl) (by k_asm) (by k_asm) (by decide) ?_; intro g')))))
    | (refine Stk.mk (k := 1) ?_; with_reducible ((k_here; k_dflt (first | ((with_reducible show wpAny _ _ (call (Value.ref 115) _) _ _ _); (refine' use_bool (c_b1 _ _ _ false (b1_letter ?hl)) ?hs ?B ?F ?X ?N ?T ?hk ?hd ?hu ?_; (case hl => with_reducible assumption); (case N => k_asm); (case hs => exact sub0); (case B => k_asm); (case F => k_asm); (case X => k_asm); (case T => k_asm); (case hk => first | exact rfl | assumption); (case hd => first | ktr_room | omega); (case hu => first | ktr_units | omega)); (intro h9 tk9 F9 N9)) | ((with_reducible show wpAny _ _ (call (Value.ref 115) _) _ _ _); (refine' use_bool (c_b1 _ _ _ true (b1_veil ?hl)) ?hs ?B ?F ?X ?N ?T ?hk ?hd ?hu ?_; (case hl => with_reducible assumption); (case N => k_asm); (case hs => exact sub0); (case B => k_asm); (case F => k_asm); (case X => k_asm); (case T => k_asm); (case hk => first | exact rfl | assumption); (case hd => first | ktr_room | omega); (case hu => first | ktr_units | omega)); (intro h9 tk9 F9 N9)) | ((with_reducible show wpAny _ _ (call (Value.ref 161) _) _ _ _); (refine' use_str (c_b3 _ _ _ ?hl) ?hs ?B ?F ?X ?N ?T ?hk ?hd ?hu ?_; (case hl => with_reducible assumption); (case N => k_asm); (case hs => exact sub0); (case B => k_asm); (case F => k_asm); (case X => k_asm); (case T => k_asm); (case hk => first | exact rfl | assumption); (case hd => first | ktr_room | omega); (case hu => first | ktr_units | omega)); (intro t9 h9 tk9 F9 N9)) | ((with_reducible show wpAny _ _ (call (Value.ref 178) _) _ _ _); (refine' use_str (c_let2e _ _ _ _ _ ?l1 ?l2 ?l3 _ _ ?k1 ?k2) ?hs ?B ?F ?X ?N ?T ?hk ?hd ?hu ?_; (case l1 => with_reducible assumption); (case l2 => with_reducible assumption); (case l3 => with_reducible assumption); (case k1 => with_reducible assumption); (case k2 => with_reducible assumption); (case N => k_asm); (case hs => exact sub0); (case B => k_asm); (case F => k_asm); (case X => k_asm); (case T => k_asm); (case hk => first | exact rfl | assumption); (case hd => first | ktr_room | omega); (case hu => first | ktr_units | omega)); (intro t9 h9 tk9 F9 N9)) | ((with_reducible show wpAny _ _ (call (Value.ref 185) _) _ _ _); (refine' use_ints (c_num2e _ _ _ _ _ ?l1 ?l2 ?l3 _ _ ?k1 ?k2 _ _ ?k3) ?hs ?B ?F ?X ?N ?T ?hk ?hd ?hu ?_; (case l1 => with_reducible assumption); (case l2 => with_reducible assumption); (case l3 => with_reducible assumption); (case k1 => with_reducible assumption); (case k2 => with_reducible assumption); (case k3 => with_reducible assumption); (case N => k_asm); (case hs => exact sub0); (case B => k_asm); (case F => k_asm); (case X => k_asm); (case T => k_asm); (case hk => first | exact rfl | assumption); (case hd => first | ktr_room | omega); (case hu => first | ktr_units | omega)); (intro D9 ws9 n9 h9 tk9 hI9 F9 N9 l9); (obtain ⟨t1, t2, g9⟩ := ints_2 hI9); (subst g9); (clear hI9)) | ((with_reducible show wpAny _ _ (call (Value.ref 21) _) _ _ _); (refine' use_int (c_sube _ _ _ _ _ ?l1 ?l2 _ ?k1) ?hs ?B ?F ?X ?N ?T ?hk ?hd ?hu ?_; (case k1 => with_reducible assumption); (case l1 => omega); (case l2 => omega); (case N => k_asm); (case hs => exact sub0); (case B => k_asm); (case F => k_asm); (case X => k_asm); (case T => k_asm); (case hk => first | exact rfl | assumption); (case hd => first | ktr_room | omega); (case hu => first | ktr_units | omega)); (intro t9 h9 tk9 F9 N9)) | ((with_reducible show wpAny _ _ (call (Value.ref 28) _) _ _ _); (refine' use_int (c_lev0 _ _ _ _ _) ?hs ?B ?F ?X ?N ?T ?hk ?hd ?hu ?_; (case N => k_asm); (case hs => exact sub0); (case B => k_asm); (case F => k_asm); (case X => k_asm); (case T => k_asm); (case hk => first | exact rfl | assumption); (case hd => first | ktr_room | omega); (case hu => first | ktr_units | omega)); (intro t9 h9 tk9 F9 N9)) | ((with_reducible show wpAny _ _ (call (Value.ref 79) _) _ _ _); (refine' use_int (c_br2 _ _ _ _ _ _ _ _ _ ?huv) ?hs ?B ?F ?X ?N ?T ?hk ?hd ?hu ?_; (case N => k_asm); (case hs => exact subC (by k_mem) sub0); (case B => k_asm); (case F => k_asm); (case X => k_asm); (case T => k_asm); (case hk => first | exact rfl | assumption); (case hd => first | ktr_room | omega); (case hu => first | ktr_units | omega); (case huv => omega)); (intro t9 h9 tk9 F9 N9)) | ((with_reducible show wpAny _ _ (call (Value.ref 56) _) _ _ _); (refine' use_oneK_int (c_d2i_1_3 _ _ _ _ _ _ _ _ _ _ ?k0 ?k1 ?k2 _ _ _ ?S ?hx ?hl) ?hs ?B ?F ?X ?N ?T ?hk ?hd ?hu ?U ?_; (case S => with_reducible assumption); (case N => k_asm); (case hs => exact subC (by k_mem) (subC (by k_mem) (subC (by k_mem) sub0))); (case B => k_asm); (case F => k_asm); (case X => k_asm); (case T => k_asm); (case hk => first | exact rfl | assumption); (case hd => first | ktr_room | omega); (case hu => first | ktr_units | omega); (case k0 => omega); (case k1 => omega); (case k2 => omega); (case hx => exact ofNe (by k_ne)); (case hl => exact ofNe (by k_ne)); (case U => k_updF)); (intro t9 x9 ox9 h9 tk9 S9 hD9 F9 N9 ho9 hv9)) | ((with_reducible show wpAny _ _ (call (Value.ref 70) _) _ _ _); (refine' use_two_pair (c_idk' _ _ _ _ rfl rfl _ _ ?ha _ _ _ _ _ _ ?S ?S2 ?h1 ?h2 ?h3 ?h4) ?hs ?B ?F ?X ?N ?T ?hk ?hd ?hu ?U ?U2 ?_; (case S => with_reducible assumption); (case S2 => with_reducible assumption); (case N => k_asm); (case hs => exact subC (by k_mem) (subC (by k_mem) (subC (by k_mem) (subC (by k_mem) sub0)))); (case B => k_asm); (case F => k_asm); (case X => k_asm); (case T => k_asm); (case hk => first | exact rfl | assumption); (case hd => first | ktr_room | omega); (case hu => first | ktr_units | omega); (case ha => omega); (case h1 => exact ofNe (by k_ne)); (case h2 => exact ofNe (by k_ne)); (case h3 => exact ofNe (by k_ne)); (case h4 => exact ofNe (by k_ne)); (case U => k_updF); (case U2 => (intro o9'; (try dsimp only); k_updF))); (intro T9 t9 u9 x9 ox9 y9 oy9 h9 tk9 S8 S9 hC9 hD9 F9 N9 hf9 ho1 ho2 ho3 ho4 hv8 hv9); (try dsimp only [List.cons_append, List.nil_append] at N9))); (try dsimp only); (try k_fold)))))))
  (refine' hret _ ([] ++ [_, (_, _), (x', ox), _, (_, _), (y', oy)]) _ _ _ ⟨[], _, _, _, _, ⟨rfl, _, rfl⟩, ?c1, ?c2, rfl, fresh0, ⟨?o1, ?o2⟩, ?o3, ?o4⟩ ?F ?N; (case F => k_asm); (case c1 => with_reducible assumption); (case c2 => with_reducible assumption); (case N => exact news_sub (by k_asm) (subC (by k_mem) (subC (by k_mem) (subC (by k_mem) (subC (by k_mem) (subC (by k_mem) (subC (by k_mem) sub0))))))); (case o1 => exact ofNe (by k_ne)); (case o2 => exact ofNe (by k_ne)); (case o3 => exact ofNe (by k_ne)); (case o4 => exact ofNe (by k_ne)))
set_option maxHeartbeats 8000000 in
theorem c_rd1 (w : World) (a b c : Nat) (tx : Tok) (ha : isLetter a = true) (hb : isVeil b = true) (hc : isLetter c = true) (x y s1 s2 : Int) (hx : ((lowL a : Nat) : Int) - 97 = x) (hy : ((lowL c : Nat) : Int) - 97 = y) (hxy : y < x) (hx0 : 0 ≤ x ∧ x < 26) (hy0 : 0 ≤ y ∧ y < 26) (ha2 : a < 128) (hc2 : c < 128) (he : ins2 x y = [y, x]) (hs1 : subCost a (lowL a) = s1) (hs2 : subCost c (lowL c) = s2) (h1 : 0 ≤ s1 ∧ s1 < 2) (h2 : 0 ≤ s2 ∧ s2 < 2)
    (o1 : Obj) (x' : Addr) (ox : Obj) (o2 : Obj) (y' : Addr) (oy : Obj) (S1 : St 44 80 4 q1 o1 x' ox) (S2 : St 51 95 4 q2 o2 y' oy) (hx1 : @LT.lt Nat _ x' 44 ∨ @LT.lt Nat _ 44 x') (hx2 : @LT.lt Nat _ x' 51 ∨ @LT.lt Nat _ 51 x') (hy1 : @LT.lt Nat _ y' 44 ∨ @LT.lt Nat _ 44 y') (hy2 : @LT.lt Nat _ y' 51 ∨ @LT.lt Nat _ 51 y') :
    Core w 195 22 [(44, o1), (x', ox), (51, o2), (y', oy)] [.str ⟨#[a, b, c]⟩ tx] (tab2R x' ox y' oy (isInt (rd (((1 * 2 ^ 1 + s1) * 2 ^ 1 + s2)) y x))) := by
  first | k_dflt ((refine' core_plain ?zho ?zhcd ?zhb ?zhl ?zhdep ?zhcell ?zhco ?zhgen ?zhk ?_; (case zho => k_is); (case zhcd => k_is); (case zhcell => decide); (case zhb => exact fun _ => rfl); (case zhl => exact locs rfl); (case zhdep => decide); (case zhco => exact rfl); (case zhgen => exact rfl); (case zhk => exact rfl); k_whole)) | k_dflt ((refine' core_cells ?zho ?zhcd ?zhb ?zhki ?zhnd ?zhdep ?zhco ?zhgen ?zhk ?_; (case zho => k_is); (case zhcd => k_is); (case zhb => exact fun _ => rfl); (case zhki => exact rfl); (case zhnd => decide +kernel); (case zhdep => decide); (case zhco => exact rfl); (case zhgen => exact rfl); (case zhk => exact rfl); k_whole)) | fail "enter"
  intro p' loose mean mg mb dp un gd cn cs a' ccd cl outer L base g L' s Qf Er F N hlt B X T hk hd hu hret
  k_lt hlt
  replace hx1 := toNe hx1
  replace hx2 := toNe hx2
  replace hy1 := toNe hy1
  replace hy2 := toNe hy2
  repeat' ((first | (k_unfold; (try dsimp only)) | (k_end; kc_close) | walk1 | (dsimp only; walk1) | (leave1; walk_say "STEP leave1"; (try dsimp only)) | fail "no step") <;> (repeat' (first
    | (refine Stk.mk (k := 6) ?_; with_reducible ((k_here; first | (with_reducible refine r_fdl 0 (by omega) (by decide) ?_ (by omega) (by omega) (by decide)) | (with_reducible refine r_fdl 1 (by omega) (by decide) ?_ (by omega) (by omega) (by decide)))))
    | (refine Stk.mk (k := 19) ?_; first | with_reducible ((with_unfolding_all first | (refine LCt.CompRestT.succ ?_; intro v' I' oI' C' oC' D' m' h' tk' E' hv' hC' hx' F' N' off' ne'; (first | ((refine' sign3_0 hv' ?e0 ?_); (case e0 => decide)) | ((refine' sign3_1 hv' ?e0 ?_); (case e0 => decide)) | ((refine' sign3_2 hv' ?e0 ?_); (case e0 => decide)) | ((refine' sign2_0 hv' ?e0 ?_); (case e0 => decide)) | ((refine' sign2_1 hv' ?e0 ?_); (case e0 => decide))); (intro t9' hv9'); (subst hv9'); (clear hv'); (have o1' := (off3_split off').1); (have o2' := (off3_split off').2.1); (have o3' := (off3_split off').2.2); (clear off'); (have n1' := (ne3_split ne').1); (have n2' := (ne3_split ne').2.1); (have n3' := (ne3_split ne').2.2); (clear ne')) | refine LCt.CompRestT.zero ?_)) | with_reducible ((with_unfolding_all first | (refine LCt.CompRestT.succ ?_; intro v' I' oI' C' oC' D' m' h' tk' E' hv' hC' hx' F' N' off' ne'; (first | lcg_open hv' | (obtain ⟨t9', hv9'⟩ := hv'; subst hv9')); (have o1' := (off3_split off').1); (have o2' := (off3_split off').2.1); (have o3' := (off3_split off').2.2); (clear off'); (have n1' := (ne3_split ne').1); (have n2' := (ne3_split ne').2.1); (have n3' := (ne3_split ne').2.2); (clear ne')) | refine LCt.CompRestT.zero ?_)))
    | (refine Stk.mk (k := 22) ?_; with_reducible ((with_unfolding_all first | (refine LCg.CompRest.succ ?_; intro v' I' oI' C' oC' D' m' h' tk' E' hv' hC' hx' F' N' off' ne'; (first | lcg_open hv' | (obtain ⟨t9', hv9'⟩ := hv'; subst hv9')); (have o1' := (off3_split off').1); (have o2' := (off3_split off').2.1); (have o3' := (off3_split off').2.2); (clear off'); (have n1' := (ne3_split ne').1); (have n2' := (ne3_split ne').2.1); (have n3' := (ne3_split ne').2.2); (clear ne')) | refine LCg.CompRest.zero ?_)))
    | (refine Stk.mk (k := 23) ?_; with_reducible (((unfold LCg.FinE); intro D' h' tk' F' N' o1'; (replace o1' := off1_split o1'); (try simp only [List.nil_append, List.cons_append] at N'); (try dsimp only))))
    | (refine Stk.mk (k := 24) ?_; with_reducible (((unfold LCg.FinA); intro D' h' tk' F' N' o1'; (replace o1' := off1_split o1'); (try simp only [List.nil_append, List.cons_append] at N'); (try dsimp only))))
    | (refine Stk.mk (k := 25) ?_; with_reducible ((k_here; (with_reducible show wpAny _ _ (subscriptTail _ _ (Value.ref _) (Value.int _ _)) _ _ _); k_dflt (first | (refine' r_li0 ?e ?N ?m ?_ ?s; (case e => decide); (case N => k_asm); (case m => k_mem); (case s => with_unfolding_all rfl)) | (refine' r_li1 ?e ?N ?m ?_ ?s; (case e => decide); (case N => k_asm); (case m => k_mem); (case s => with_unfolding_all rfl)) | (refine' r_li2 ?e ?N ?m ?_ ?s; (case e => decide); (case N => k_asm); (case m => k_mem); (case s => with_unfolding_all rfl))))))
    | (refine Stk.mk (k := 15) ?_; first | with_reducible ((k_here; lct_look; k_dflt (refine ListComp_S (F₀ := by k_asm) (by with_unfolding_all rfl) (by decide) (by rfl) (by decide) (by rfl) ?_))) | with_reducible ((k_here; k_dflt (refine LCg.ListComp_U (F₀ := by k_asm) (by with_unfolding_all rfl) (by decide) (by rfl) (by decide) (by rfl) ?_); k_dflt lcg_toSrc)))
    | (refine Stk.mk (k := 26) ?_; first | with_reducible ((k_here; lct_look; k_dflt (refine Assign_ListComp_S (F₀ := by k_asm) (by rfl) (by with_unfolding_all rfl) (by with_unfolding_all rfl) (by decide) (by rfl) (by decide) (by rfl) (by rfl) (by rfl) ?_))) | with_reducible ((k_here; k_dflt (refine LCg.Assign_ListComp_U (F₀ := by k_asm) (by rfl) (by with_unfolding_all rfl) (by with_unfolding_all rfl) (by decide) (by rfl) (by decide) (by rfl) (by rfl) (by rfl) ?_); k_dflt lcg_toSrc)))
    | (refine Stk.mk (k := 16) ?_; with_reducible ((k_here; k_dflt (first | (refine LCg.CompSrc.ledger (by rfl) (by k_asm) (by k_asm) (by k_mem) (by first | exact Nat.le_of_ble_eq_true rfl | size_fits) ?_; intro g'; lcg_lit) | (refine LCg.CompSrc.range (by rfl) (by k_asm) (by k_asm) (by assumption) (by first | decide | rfl) (by first | rfl | decide) (by first | exact Nat.le_of_ble_eq_true rfl | size_fits) ?_; intro g'; lcg_lit)))))
    | (refine Stk.mk (k := 18) ?_; with_reducible ((k_here; k_dflt (first | (refine CompSrcS.mk (n := 3) (by rfl) (by rfl) (by k_asm) (by k_asm) (by decide) ?_; intro g') | (refine CompSrcS.mk (n := 2) (by rfl) (by rfl) (by k_asm) (by k_asm) (by decide) ?_; intro g')))))
    | (refine Stk.mk (k := 1) ?_; first | with_reducible ((k_here; k_dflt (first | ((with_reducible show wpAny _ _ (call (Value.ref 115) _) _ _ _); (refine' use_bool (c_b1 _ _ _ false (b1_letter ?hl)) ?hs ?B ?F ?X ?N ?T ?hk ?hd ?hu ?_; (case hl => with_reducible assumption); (case N => k_asm); (case hs => exact sub0); (case B => k_asm); (case F => k_asm); (case X => k_asm); (case T => k_asm); (case hk => first | exact rfl | assumption); (case hd => first | ktr_room | omega); (case hu => first | ktr_units | omega)); (intro h9 tk9 F9 N9)) | ((with_reducible show wpAny _ _ (call (Value.ref 115) _) _ _ _); (refine' use_bool (c_b1 _ _ _ true (b1_veil ?hl)) ?hs ?B ?F ?X ?N ?T ?hk ?hd ?hu ?_; (case hl => with_reducible assumption); (case N => k_asm); (case hs => exact sub0); (case B => k_asm); (case F => k_asm); (case X => k_asm); (case T => k_asm); (case hk => first | exact rfl | assumption); (case hd => first | ktr_room | omega); (case hu => first | ktr_units | omega)); (intro h9 tk9 F9 N9)) | ((with_reducible show wpAny _ _ (call (Value.ref 161) _) _ _ _); (refine' use_str (c_b3 _ _ _ ?hl) ?hs ?B ?F ?X ?N ?T ?hk ?hd ?hu ?_; (case hl => with_reducible assumption); (case N => k_asm); (case hs => exact sub0); (case B => k_asm); (case F => k_asm); (case X => k_asm); (case T => k_asm); (case hk => first | exact rfl | assumption); (case hd => first | ktr_room | omega); (case hu => first | ktr_units | omega)); (intro t9 h9 tk9 F9 N9)) | ((with_reducible show wpAny _ _ (call (Value.ref 178) _) _ _ _); (refine' use_str (c_let2e _ _ _ _ _ ?l1 ?l2 ?l3 _ _ ?k1 ?k2) ?hs ?B ?F ?X ?N ?T ?hk ?hd ?hu ?_; (case l1 => with_reducible assumption); (case l2 => with_reducible assumption); (case l3 => with_reducible assumption); (case k1 => with_reducible assumption); (case k2 => with_reducible assumption); (case N => k_asm); (case hs => exact sub0); (case B => k_asm); (case F => k_asm); (case X => k_asm); (case T => k_asm); (case hk => first | exact rfl | assumption); (case hd => first | ktr_room | omega); (case hu => first | ktr_units | omega)); (intro t9 h9 tk9 F9 N9)) | ((with_reducible show wpAny _ _ (call (Value.ref 185) _) _ _ _); (refine' use_ints (c_num2e _ _ _ _ _ ?l1 ?l2 ?l3 _ _ ?k1 ?k2 _ _ ?k3) ?hs ?B ?F ?X ?N ?T ?hk ?hd ?hu ?_; (case l1 => with_reducible assumption); (case l2 => with_reducible assumption); (case l3 => with_reducible assumption); (case k1 => with_reducible assumption); (case k2 => with_reducible assumption); (case k3 => with_reducible assumption); (case N => k_asm); (case hs => exact sub0); (case B => k_asm); (case F => k_asm); (case X => k_asm); (case T => k_asm); (case hk => first | exact rfl | assumption); (case hd => first | ktr_room | omega); (case hu => first | ktr_units | omega)); (intro D9 ws9 n9 h9 tk9 hI9 F9 N9 l9); (obtain ⟨t1, t2, g9⟩ := ints_2 hI9); (subst g9); (clear hI9)) | ((with_reducible show wpAny _ _ (call (Value.ref 21) _) _ _ _); (refine' use_int (c_sube _ _ _ _ _ ?l1 ?l2 _ ?k1) ?hs ?B ?F ?X ?N ?T ?hk ?hd ?hu ?_; (case k1 => with_reducible assumption); (case l1 => omega); (case l2 => omega); (case N => k_asm); (case hs => exact sub0); (case B => k_asm); (case F => k_asm); (case X => k_asm); (case T => k_asm); (case hk => first | exact rfl | assumption); (case hd => first | ktr_room | omega); (case hu => first | ktr_units | omega)); (intro t9 h9 tk9 F9 N9)) | ((with_reducible show wpAny _ _ (call (Value.ref 28) _) _ _ _); (refine' use_int (c_lev4 _ _ _ _ _ _ ?l1 ?l2 ?l3) ?hs ?B ?F ?X ?N ?T ?hk ?hd ?hu ?_; (case l1 => omega); (case l2 => omega); (case l3 => omega); (case N => k_asm); (case hs => exact sub0); (case B => k_asm); (case F => k_asm); (case X => k_asm); (case T => k_asm); (case hk => first | exact rfl | assumption); (case hd => first | ktr_room | omega); (case hu => first | ktr_units | omega)); (intro t9 h9 tk9 F9 N9)) | ((with_reducible show wpAny _ _ (call (Value.ref 79) _) _ _ _); (refine' use_int (c_br2 _ _ _ _ _ _ _ _ _ ?huv) ?hs ?B ?F ?X ?N ?T ?hk ?hd ?hu ?_; (case N => k_asm); (case hs => exact subC (by k_mem) sub0); (case B => k_asm); (case F => k_asm); (case X => k_asm); (case T => k_asm); (case hk => first | exact rfl | assumption); (case hd => first | ktr_room | omega); (case hu => first | ktr_units | omega); (case huv => omega)); (intro t9 h9 tk9 F9 N9)) | ((with_reducible show wpAny _ _ (call (Value.ref 56) _) _ _ _); (refine' use_oneK_int (c_d2i_1_3 _ _ _ _ _ _ _ _ _ _ ?k0 ?k1 ?k2 _ _ _ ?S ?hx ?hl) ?hs ?B ?F ?X ?N ?T ?hk ?hd ?hu ?U ?_; (case S => with_reducible assumption); (case N => k_asm); (case hs => exact subC (by k_mem) (subC (by k_mem) (subC (by k_mem) sub0))); (case B => k_asm); (case F => k_asm); (case X => k_asm); (case T => k_asm); (case hk => first | exact rfl | assumption); (case hd => first | ktr_room | omega); (case hu => first | ktr_units | omega); (case k0 => omega); (case k1 => omega); (case k2 => omega); (case hx => exact ofNe (by k_ne)); (case hl => exact ofNe (by k_ne)); (case U => k_updF)); (intro t9 x9 ox9 h9 tk9 S9 hD9 F9 N9 ho9 hv9)) | ((with_reducible show wpAny _ _ (call (Value.ref 70) _) _ _ _); (refine' use_two_pair (c_idk' _ _ _ _ rfl rfl _ _ ?ha _ _ _ _ _ _ ?S ?S2 ?h1 ?h2 ?h3 ?h4) ?hs ?B ?F ?X ?N ?T ?hk ?hd ?hu ?U ?U2 ?_; (case S => with_reducible assumption); (case S2 => with_reducible assumption); (case N => k_asm); (case hs => exact subC (by k_mem) (subC (by k_mem) (subC (by k_mem) (subC (by k_mem) sub0)))); (case B => k_asm); (case F => k_asm); (case X => k_asm); (case T => k_asm); (case hk => first | exact rfl | assumption); (case hd => first | ktr_room | omega); (case hu => first | ktr_units | omega); (case ha => omega); (case h1 => exact ofNe (by k_ne)); (case h2 => exact ofNe (by k_ne)); (case h3 => exact ofNe (by k_ne)); (case h4 => exact ofNe (by k_ne)); (case U => k_updF); (case U2 => (intro o9'; (try dsimp only); k_updF))); (intro T9 t9 u9 x9 ox9 y9 oy9 h9 tk9 S8 S9 hC9 hD9 F9 N9 hf9 ho1 ho2 ho3 ho4 hv8 hv9); (try dsimp only [List.cons_append, List.nil_append] at N9))); (try dsimp only); (try k_fold))) | with_reducible ((k_here; k_dflt (first | ((with_reducible show wpAny _ _ (call (Value.ref 115) _) _ _ _); (refine' use_bool (c_b1 _ _ _ false (b1_letter ?hl)) ?hs ?B ?F ?X ?N ?T ?hk ?hd ?hu ?_; (case hl => with_reducible assumption); (case N => k_asm); (case hs => exact sub0); (case B => k_asm); (case F => k_asm); (case X => k_asm); (case T => k_asm); (case hk => first | exact rfl | assumption); (case hd => first | ktr_room | omega); (case hu => first | ktr_units | omega)); (intro h9 tk9 F9 N9)) | ((with_reducible show wpAny _ _ (call (Value.ref 115) _) _ _ _); (refine' use_bool (c_b1 _ _ _ true (b1_veil ?hl)) ?hs ?B ?F ?X ?N ?T ?hk ?hd ?hu ?_; (case hl => with_reducible assumption); (case N => k_asm); (case hs => exact sub0); (case B => k_asm); (case F => k_asm); (case X => k_asm); (case T => k_asm); (case hk => first | exact rfl | assumption); (case hd => first | ktr_room | omega); (case hu => first | ktr_units | omega)); (intro h9 tk9 F9 N9)) | ((with_reducible show wpAny _ _ (call (Value.ref 161) _) _ _ _); (refine' use_str (c_b3 _ _ _ ?hl) ?hs ?B ?F ?X ?N ?T ?hk ?hd ?hu ?_; (case hl => with_reducible assumption); (case N => k_asm); (case hs => exact sub0); (case B => k_asm); (case F => k_asm); (case X => k_asm); (case T => k_asm); (case hk => first | exact rfl | assumption); (case hd => first | ktr_room | omega); (case hu => first | ktr_units | omega)); (intro t9 h9 tk9 F9 N9)) | ((with_reducible show wpAny _ _ (call (Value.ref 178) _) _ _ _); (refine' use_str (c_let2e _ _ _ _ _ ?l1 ?l2 ?l3 _ _ ?k1 ?k2) ?hs ?B ?F ?X ?N ?T ?hk ?hd ?hu ?_; (case l1 => with_reducible assumption); (case l2 => with_reducible assumption); (case l3 => with_reducible assumption); (case k1 => with_reducible assumption); (case k2 => with_reducible assumption); (case N => k_asm); (case hs => exact sub0); (case B => k_asm); (case F => k_asm); (case X => k_asm); (case T => k_asm); (case hk => first | exact rfl | assumption); (case hd => first | ktr_room | omega); (case hu => first | ktr_units | omega)); (intro t9 h9 tk9 F9 N9)) | ((with_reducible show wpAny _ _ (call (Value.ref 185) _) _ _ _); (refine' use_ints (c_num2e _ _ _ _ _ ?l1 ?l2 ?l3 _ _ ?k1 ?k2 _ _ ?k3) ?hs ?B ?F ?X ?N ?T ?hk ?hd ?hu ?_; (case l1 => with_reducible assumption); (case l2 => with_reducible assumption); (case l3 => with_reducible assumption); (case k1 => with_reducible assumption); (case k2 => with_reducible assumption); (case k3 => with_reducible assumption); (case N => k_asm); (case hs => exact sub0); (case B => k_asm); (case F => k_asm); (case X => k_asm); (case T => k_asm); (case hk => first | exact rfl | assumption); (case hd => first | ktr_room | omega); (case hu => first | ktr_units | omega)); (intro D9 ws9 n9 h9 tk9 hI9 F9 N9 l9); (obtain ⟨t1, t2, g9⟩ := ints_2 hI9); (subst g9); (clear hI9)) | ((with_reducible show wpAny _ _ (call (Value.ref 21) _) _ _ _); (refine' use_int (c_sube _ _ _ _ _ ?l1 ?l2 _ ?k1) ?hs ?B ?F ?X ?N ?T ?hk ?hd ?hu ?_; (case k1 => with_reducible assumption); (case l1 => omega); (case l2 => omega); (case N => k_asm); (case hs => exact sub0); (case B => k_asm); (case F => k_asm); (case X => k_asm); (case T => k_asm); (case hk => first | exact rfl | assumption); (case hd => first | ktr_room | omega); (case hu => first | ktr_units | omega)); (intro t9 h9 tk9 F9 N9)) | ((with_reducible show wpAny _ _ (call (Value.ref 28) _) _ _ _); (refine' use_int (c_lev0 _ _ _ _ _) ?hs ?B ?F ?X ?N ?T ?hk ?hd ?hu ?_; (case N => k_asm); (case hs => exact sub0); (case B => k_asm); (case F => k_asm); (case X => k_asm); (case T => k_asm); (case hk => first | exact rfl | assumption); (case hd => first | ktr_room | omega); (case hu => first | ktr_units | omega)); (intro t9 h9 tk9 F9 N9)) | ((with_reducible show wpAny _ _ (call (Value.ref 79) _) _ _ _); (refine' use_int (c_br2 _ _ _ _ _ _ _ _ _ ?huv) ?hs ?B ?F ?X ?N ?T ?hk ?hd ?hu ?_; (case N => k_asm); (case hs => exact subC (by k_mem) sub0); (case B => k_asm); (case F => k_asm); (case X => k_asm); (case T => k_asm); (case hk => first | exact rfl | assumption); (case hd => first | ktr_room | omega); (case hu => first | ktr_units | omega); (case huv => omega)); (intro t9 h9 tk9 F9 N9)) | ((with_reducible show wpAny _ _ (call (Value.ref 56) _) _ _ _); (refine' use_oneK_int (c_d2i_1_3 _ _ _ _ _ _ _ _ _ _ ?k0 ?k1 ?k2 _ _ _ ?S ?hx ?hl) ?hs ?B ?F ?X ?N ?T ?hk ?hd ?hu ?U ?_; (case S => with_reducible assumption); (case N => k_asm); (case hs => exact subC (by k_mem) (subC (by k_mem) (subC (by k_mem) sub0))); (case B => k_asm); (case F => k_asm); (case X => k_asm); (case T => k_asm); (case hk => first | exact rfl | assumption); (case hd => first | ktr_room | omega); (case hu => first | ktr_units | omega); (case k0 => omega); (case k1 => omega); (case k2 => omega); (case hx => exact ofNe (by k_ne)); (case hl => exact ofNe (by k_ne)); (case U => k_updF)); (intro t9 x9 ox9 h9 tk9 S9 hD9 F9 N9 ho9 hv9)) | ((with_reducible show wpAny _ _ (call (Value.ref 70) _) _ _ _); (refine' use_two_pair (c_idk' _ _ _ _ rfl rfl _ _ ?ha _ _ _ _ _ _ ?S ?S2 ?h1 ?h2 ?h3 ?h4) ?hs ?B ?F ?X ?N ?T ?hk ?hd ?hu ?U ?U2 ?_; (case S => with_reducible assumption); (case S2 => with_reducible assumption); (case N => k_asm); (case hs => exact subC (by k_mem) (subC (by k_mem) (subC (by k_mem) (subC (by k_mem) sub0)))); (case B => k_asm); (case F => k_asm); (case X => k_asm); (case T => k_asm); (case hk => first | exact rfl | assumption); (case hd => first | ktr_room | omega); (case hu => first | ktr_units | omega); (case ha => omega); (case h1 => exact ofNe (by k_ne)); (case h2 => exact ofNe (by k_ne)); (case h3 => exact ofNe (by k_ne)); (case h4 => exact ofNe (by k_ne)); (case U => k_updF); (case U2 => (intro o9'; (try dsimp only); k_updF))); (intro T9 t9 u9 x9 ox9 y9 oy9 h9 tk9 S8 S9 hC9 hD9 F9 N9 hf9 ho1 ho2 ho3 ho4 hv8 hv9); (try dsimp only [List.cons_append, List.nil_append] at N9))); (try dsimp only); (try k_fold)))))))
  (refine' hret _ ([] ++ [_, (_, _), (x', ox), _, (_, _), (y', oy)]) _ _ _ ⟨[], _, _, _, _, ⟨rfl, _, rfl⟩, ?c1, ?c2, rfl, fresh0, ⟨?o1, ?o2⟩, ?o3, ?o4⟩ ?F ?N; (case F => k_asm); (case c1 => with_reducible assumption); (case c2 => with_reducible assumption); (case N => exact news_sub (by k_asm) (subC (by k_mem) (subC (by k_mem) (subC (by k_mem) (subC (by k_mem) (subC (by k_mem) (subC (by k_mem) sub0))))))); (case o1 => exact ofNe (by k_ne)); (case o2 => exact ofNe (by k_ne)); (case o3 => exact ofNe (by k_ne)); (case o4 => exact ofNe (by k_ne)))
end
end
section
/-- after the law's first two statements: seven draws -/
inductive DrawsAt (g : Heap) (L : Addr) (news : List (Addr × Obj)) (s s' : Shared) : Prop
  | mk (D : Addr) (d0 d1 d2 d3 d4 d5 d6 : Int) (t0 t1 t2 t3 t4 t5 t6 : Tok) (n : Nat) (h : Heap) (tk : Nat) (m : Str → Option Value) (fl1 : s' = { s with heap := h, toks := tk }) (fl2 : Fr g L h (fun y => if y = Str.ofString "draws" then some (.ref D) else m y)) (fl3 : News g L h ((D, listOf #[.int d0 t0, .int d1 t1, .int d2 t2, .int d3 t3, .int d4 t4, .int d5 t5, .int d6 t6] n) :: news)) (fl4 : (∀ p ∈ news, p.1 < D)) (fl5 : (0 ≤ d0 ∧ d0 < 1000000)) (fl6 : (0 ≤ d1 ∧ d1 < 1000000)) (fl7 : (0 ≤ d2 ∧ d2 < 1000000)) (fl8 : (0 ≤ d3 ∧ d3 < 1000000)) (fl9 : (0 ≤ d4 ∧ d4 < 1000000)) (fl10 : (0 ≤ d5 ∧ d5 < 1000000)) (fl11 : (0 ≤ d6 ∧ d6 < 1000000)) : DrawsAt g L news s s'
/-- a slice of a list that has no name -/
theorem r_slice_tmp {w : World} {A : Around} {E : Value → Shared → Prop} {s : Shared} {value slice : PySem.Expr} {h₀ : Heap} {L l : Addr} {m : Str → Option Value} {news : List (Addr × Obj)} {items zs : List Value} {n : Nat} {k j : Int} {u : Tok} {Q : Value → Shared → Prop}
    (ek : k = j) (F : Fr h₀ L s.heap m) (N : News h₀ L s.heap news) (hm : (l, listOf (List.toArray items) n) ∈ news) (e : (slicePick items.toArray (some j) none none).toList = zs)
    (h : ∀ D h', Fr h₀ L h' m → News h₀ L h' ((D, listOf zs.toArray 0) :: news) → (∀ p ∈ news, p.1 < D) → Q (.ref D) { s with heap := h' })
    (hs : subscripted slice false (.ref l) (.ref s.heap.objs.size) = operate [.ref s.heap.objs.size, .ref l] (getItem (.ref l) (.ref s.heap.objs.size)))
    (hsz : items.length ≤ 64) :
    wpAny (model pgm w) A (subscriptTail value slice (.ref l) (.ref s.heap.objs.size)) Q E { s with heap := s.heap.push { cls := .type "slice", data := .fields #[.int k u, .none, .none] } } := by
  subst ek
  have hl : s.heap.IsList l items.toArray := N.isList hm
  refine tail_any (Heap.IsList.typeIs (s := { s with heap := s.heap.push { cls := .type "slice", data := .fields #[.int k u, .none, .none] } }) (hl.push _)) slot_list_getitem.lookup
    (wpAny_getItem_list_slice (hl.push _) (Heap.IsSliceOf.new ..) (IsPart.int _ _) IsPart.none .none (by simp) ?_ (by rw [List.size_toArray]; exact Nat.le_trans hsz (by rw [sizeLine_eq]; decide))) hs
  have N1 := News.push (F.push { cls := .type "slice", data := .fields #[.int k u, .none, .none] }) (N.grown fun _ _ e => Heap.get?_push_of_some _ e) { cls := .type "list", data := .seq (slicePick items.toArray (some k) none none) }
  rw [Heap.size_push] at N1
  show Q (.ref (s.heap.push _).objs.size) _
  rw [Heap.size_push]
  refine h _ _ ((F.push _).push _) ?_ fun p hp => Nat.lt_succ_of_lt (Heap.lt_size (N p hp).1)
  rw [← e, Array.toArray_toList]
  exact N1
end
section
/-! the contracts as the law uses them -/
theorem typ_all : ∀ d : Fin 4, ∀ v : Fin 26, isLetter (form4 ((d.val : Nat) : Int) + ((v.val : Nat) : Int)).toNat = true ∧ ((lowL (form4 ((d.val : Nat) : Int) + ((v.val : Nat) : Int)).toNat : Nat) : Int) - 97 = ((v.val : Nat) : Int) := by decide +kernel
theorem as_fin {k : Nat} {x : Int} (h : 0 ≤ x ∧ x < (k : Int)) : ∃ i : Fin k, x = ((i.val : Nat) : Int) := ⟨⟨x.toNat, by have := h.1; have := h.2; omega⟩, (Int.toNat_of_nonneg h.1).symm⟩
theorem typ_facts {d v : Int} (hd : 0 ≤ d ∧ d < 4) (hv : 0 ≤ v ∧ v < 26) : isLetter (form4 d + v).toNat = true ∧ ((lowL (form4 d + v).toNat : Nat) : Int) - 97 = v := by
  obtain ⟨i, rfl⟩ := as_fin (k := 4) hd
  obtain ⟨j, rfl⟩ := as_fin (k := 26) hv
  exact typ_all i j
/-- three letters of these values -/
noncomputable def isTyped (x y z : Int) (r : Value) (new : List (Addr × Obj)) : Prop := new = [] ∧ ∃ (a b c : Nat) (t : Tok), r = .str ⟨#[a, b, c]⟩ t ∧ (isLetter a = true ∧ isLetter b = true ∧ isLetter c = true) ∧ ((lowL a : Nat) : Int) - 97 = x ∧ ((lowL b : Nat) : Int) - 97 = y ∧ ((lowL c : Nat) : Int) - 97 = z
theorem core_to {w : World} {f : Addr} {dep : Nat} {wr : List (Addr × Obj)} {vs : List Value} {R R' : Value → List (Addr × Obj) → Prop} (C : Core w f dep wr vs R) (h : ∀ r out, R r out → R' r out) : Core w f dep wr vs R' := by
  intro p loose mean mg mb dp un gd cn cs a ccd cl outer A₀ base h₀ L m s Q E B F X N T hk hd hu hret
  exact C p loose mean mg mb dp un gd cn cs a ccd cl outer A₀ base h₀ L m s Q E B F X N T hk hd hu fun r out h' tk' hr => hret r out h' tk' (h r out hr)
theorem c_typedE (w : World) (l : Addr) (x y z d : Int) (tx ty tz td : Tok) (n : Nat) (hx : 0 ≤ x ∧ x < 26) (hy : 0 ≤ y ∧ y < 26) (hz : 0 ≤ z ∧ z < 26) (hdd : 0 ≤ d ∧ d < 1000000) : Spec w 173 3 [(l, listOf #[.int x tx, .int y ty, .int z tz] n)] [.ref l, .int d td] (isTyped x y z) :=
  core_to (c_typed w l x y z d tx ty tz td n hx hy hz hdd) fun r out hr => by
    obtain ⟨new, e, ⟨e1, t, e2⟩, h⟩ := hr
    have m4 : ∀ a : Int, 0 ≤ a.fmod 4 ∧ a.fmod 4 < 4 := fun a => ⟨Int.fmod_nonneg_of_pos _ (by decide), Int.fmod_lt_of_pos _ (by decide)⟩
    exact ⟨new, e, ⟨e1, _, _, _, t, e2, ⟨(typ_facts (m4 _) hx).1, (typ_facts (m4 _) hy).1, (typ_facts (m4 _) hz).1⟩, (typ_facts (m4 _) hx).2, (typ_facts (m4 _) hy).2, (typ_facts (m4 _) hz).2⟩, h⟩
/-- what a hand of three hides and shows -/
noncomputable def Hid (x y z h k u v : Int) : Prop := ∃ p q r, ins3 x y z = [p, q, r] ∧ x + y + z = p + q + r ∧ (0 ≤ p ∧ p < q ∧ q < r ∧ r < 26) ∧
  (((p + q + r) % 3 = 0 ∧ h = p ∧ k = (p - 0) / 3 ∧ u = q ∧ v = r) ∨ ((p + q + r) % 3 = 1 ∧ h = q ∧ k = (q - 1) / 3 ∧ u = p ∧ v = r) ∨ ((p + q + r) % 3 = 2 ∧ h = r ∧ k = (r - 2) / 3 ∧ u = p ∧ v = q))
theorem c_wriE (w : World) (a b c : Nat) (vv : Nat) (tx tv : Tok) (ha : isLetter a = true) (hb : isLetter b = true) (hc : isLetter c = true) (x y z : Int) (hx : ((lowL a : Nat) : Int) - 97 = x) (hy : ((lowL b : Nat) : Int) - 97 = y) (hz : ((lowL c : Nat) : Int) - 97 = z) (hxy : x ≠ y) (h k u v : Int) (H : Hid x y z h k u v)
    (o1 : Obj) (x' : Addr) (ox : Obj) (o2 : Obj) (y' : Addr) (oy : Obj) (S1 : St 44 80 4 q1 o1 x' ox) (S2 : St 51 95 4 q2 o2 y' oy) (hx1 : @LT.lt Nat _ x' 44 ∨ @LT.lt Nat _ 44 x') (hx2 : @LT.lt Nat _ x' 51 ∨ @LT.lt Nat _ 51 x') (hy1 : @LT.lt Nat _ y' 44 ∨ @LT.lt Nat _ 44 y') (hy2 : @LT.lt Nat _ y' 51 ∨ @LT.lt Nat _ 51 y') :
    Core w 190 22 [(44, o1), (x', ox), (51, o2), (y', oy)] [.str ⟨#[a, b, c]⟩ tx, .str ⟨#[vv]⟩ tv] (tab2R x' ox y' oy (isHS h (wmsg k u v vv))) := by
  obtain ⟨p, q, r, he, _, ⟨h0, h1, h2, h3⟩, ⟨hi, rfl, rfl, rfl, rfl⟩ | ⟨hi, rfl, rfl, rfl, rfl⟩ | ⟨hi, rfl, rfl, rfl, rfl⟩⟩ := H
  · exact c_wri0 w a b c vv tx tv ha hb hc x y z hx hy hz hxy h u v he h0 h1 h2 h3 hi o1 x' ox o2 y' oy S1 S2 hx1 hx2 hy1 hy2
  · exact c_wri1 w a b c vv tx tv ha hb hc x y z hx hy hz hxy u h v he h0 h1 h2 h3 hi o1 x' ox o2 y' oy S1 S2 hx1 hx2 hy1 hy2
  · exact c_wri2 w a b c vv tx tv ha hb hc x y z hx hy hz hxy u v h he h0 h1 h2 h3 hi o1 x' ox o2 y' oy S1 S2 hx1 hx2 hy1 hy2
theorem wsign_all : ∀ d : Fin 2, ∀ v : Fin 26, isLetter (wsign ((d.val : Nat) : Int) ((v.val : Nat) : Int)) = true ∧ ((lowL (wsign ((d.val : Nat) : Int) ((v.val : Nat) : Int)) : Nat) : Int) - 97 = ((v.val : Nat) : Int) ∧ subCost (wsign ((d.val : Nat) : Int) ((v.val : Nat) : Int)) (lowL (wsign ((d.val : Nat) : Int) ((v.val : Nat) : Int))) = ((d.val : Nat) : Int) ∧ wsign ((d.val : Nat) : Int) ((v.val : Nat) : Int) < 128 := by decide +kernel
theorem wsign_facts {b u : Int} (hb : 0 ≤ b ∧ b < 2) (hu : 0 ≤ u ∧ u < 26) : isLetter (wsign b u) = true ∧ ((lowL (wsign b u) : Nat) : Int) - 97 = u ∧ subCost (wsign b u) (lowL (wsign b u)) = b ∧ wsign b u < 128 := by
  obtain ⟨i, rfl⟩ := as_fin (k := 2) hb
  obtain ⟨j, rfl⟩ := as_fin (k := 26) hu
  exact wsign_all i j
theorem ins2_le {x y : Int} (h : x < y) : ins2 x y = [x, y] := by unfold ins2 lo2 hi2; (repeat' split) <;> first | rfl | (exfalso; omega)
theorem ins2_ge {x y : Int} (h : y < x) : ins2 x y = [y, x] := by unfold ins2 lo2 hi2; (repeat' split) <;> first | rfl | (exfalso; omega)
theorem c_rdE (w : World) (k u v : Int) (vv : Nat) (tx : Tok) (hb : isVeil vv = true) (hk : 0 ≤ k ∧ k < 8) (hu : 0 ≤ u) (huv : u < v) (hv : v < 26)
    (o1 : Obj) (x' : Addr) (ox : Obj) (o2 : Obj) (y' : Addr) (oy : Obj) (S1 : St 44 80 4 q1 o1 x' ox) (S2 : St 51 95 4 q2 o2 y' oy) (hx1 : @LT.lt Nat _ x' 44 ∨ @LT.lt Nat _ 44 x') (hx2 : @LT.lt Nat _ x' 51 ∨ @LT.lt Nat _ 51 x') (hy1 : @LT.lt Nat _ y' 44 ∨ @LT.lt Nat _ 44 y') (hy2 : @LT.lt Nat _ y' 51 ∨ @LT.lt Nat _ 51 y') :
    Core w 195 22 [(44, o1), (x', ox), (51, o2), (y', oy)] [.str (wmsg k u v vv) tx] (tab2R x' ox y' oy (isInt (rd k u v))) := by
  have b0 : 0 ≤ k % 2 ∧ k % 2 < 2 := by omega
  have b1 : 0 ≤ k / 2 % 2 ∧ k / 2 % 2 < 2 := by omega
  have u0 : 0 ≤ u ∧ u < 26 := by omega
  have v0 : 0 ≤ v ∧ v < 26 := by omega
  obtain ⟨l1, l2, l3, l4⟩ := wsign_facts b0 u0
  obtain ⟨m1, m2, m3, m4⟩ := wsign_facts b1 v0
  unfold wmsg
  by_cases h : k / 4 % 2 = 1
  · rw [if_pos h]
    have e : k = (1 * 2 ^ 1 + k / 2 % 2) * 2 ^ 1 + k % 2 := by omega
    have := c_rd1 w (wsign (k / 2 % 2) v) vv (wsign (k % 2) u) tx m1 hb l1 v u (k / 2 % 2) (k % 2) m2 l2 huv v0 u0 m4 l4 (ins2_ge huv) m3 l3 b1 b0 o1 x' ox o2 y' oy S1 S2 hx1 hx2 hy1 hy2
    rw [← e] at this
    exact this
  · rw [if_neg h]
    have e : k = (0 * 2 ^ 1 + k / 2 % 2) * 2 ^ 1 + k % 2 := by omega
    have := c_rd0 w (wsign (k % 2) u) vv (wsign (k / 2 % 2) v) tx l1 hb m1 u v (k % 2) (k / 2 % 2) l2 m2 huv u0 v0 l4 m4 (ins2_le huv) l3 m3 b0 b1 o1 x' ox o2 y' oy S1 S2 hx1 hx2 hy1 hy2
    rw [← e] at this
    exact this
theorem msg_eq {x y z : Int} {v : Nat} (hz : 0 ≤ z ∧ z < 8) : msgOf x y z v = wmsg z x y v := by
  have : z = 0 ∨ z = 1 ∨ z = 2 ∨ z = 3 ∨ z = 4 ∨ z = 5 ∨ z = 6 ∨ z = 7 := by omega
  rcases this with rfl | rfl | rfl | rfl | rfl | rfl | rfl | rfl <;> rfl
theorem c_msgE (w : World) (x y z : Int) (v : Nat) (tx ty tz tv : Tok) (hx : 0 ≤ x ∧ x < 26) (hy : 0 ≤ y ∧ y < 26) (hz : 0 ≤ z ∧ z < 8) :
    Spec w 202 3 [] [.int x tx, .int y ty, .int z tz, .str ⟨#[v]⟩ tv] (isStr (wmsg z x y v)) := by
  rw [← msg_eq hz]; exact c_msg w x y z v tx ty tz tv hx hy hz
/-! the plain law -/
theorem rd_p {p q r : Int} (hi : (p + q + r) % 3 = 0) : 3 * ((p - 0) / 3) + -(q + (r + 0)) % 3 = p := by omega
theorem rd_q {p q r : Int} (hi : (p + q + r) % 3 = 1) : 3 * ((q - 1) / 3) + -(p + (r + 0)) % 3 = q - 1 := by omega
theorem rd_r {p q r : Int} (hi : (p + q + r) % 3 = 2) : 3 * ((r - 2) / 3) + -(p + (q + 0)) % 3 = r - 2 := by omega
theorem k_ok {p : Int} {j : Int} (h0 : 0 ≤ p - j) (h1 : p - j < 24) : 0 ≤ (p - j) / 3 ∧ (p - j) / 3 < 8 := by omega
theorem hid_rd {x y z h k u v : Int} (H : Hid x y z h k u v) : rd k u v = h ∧ (0 ≤ k ∧ k < 8) ∧ 0 ≤ u ∧ u < v ∧ v < 26 ∧ (0 ≤ h ∧ h < 26) := by
  obtain ⟨p, q, r, _, _, ⟨h0, h1, h2, h3⟩, H⟩ := H
  have hq : 0 < q := Int.lt_of_le_of_lt h0 h1
  have hr : 1 < r := Int.lt_of_le_of_lt hq h2
  have hq5 : q < 25 := Int.lt_of_lt_of_le h2 (Int.le_of_lt_add_one h3)
  have hp4 : p < 24 := Int.lt_of_lt_of_le h1 (Int.le_of_lt_add_one hq5)
  rcases H with ⟨hi, rfl, rfl, rfl, rfl⟩ | ⟨hi, rfl, rfl, rfl, rfl⟩ | ⟨hi, rfl, rfl, rfl, rfl⟩
  · refine ⟨?_, k_ok (by omega) (by omega), Int.le_of_lt hq, h2, h3, h0, Int.lt_trans hp4 (by decide)⟩
    rw [rd, rd_p hi, br2v, if_neg (by omega), if_neg (by omega)]; exact Int.add_zero _
  · refine ⟨?_, k_ok (by omega) (by omega), h0, Int.lt_trans h1 h2, h3, Int.le_of_lt hq, Int.lt_trans hq5 (by decide)⟩
    rw [rd, rd_q hi, br2v, if_neg (by omega), if_pos (by omega)]; exact Int.sub_add_cancel _ _
  · refine ⟨?_, k_ok (by omega) (by omega), h0, h1, Int.lt_trans hq5 (by decide), Int.le_of_lt (Int.lt_trans (by decide) hr), h3⟩
    rw [rd, rd_r hi, br2v, if_pos (by omega)]; exact Int.sub_add_cancel _ _
theorem ins3_ok {x y z : Int} (hx : 0 ≤ x ∧ x < 26) (hy : 0 ≤ y ∧ y < 26) (hz : 0 ≤ z ∧ z < 26) (h1 : x ≠ y) (h2 : x ≠ z) (h3 : y ≠ z) : ∃ p q r, ins3 x y z = [p, q, r] ∧ x + y + z = p + q + r ∧ (0 ≤ p ∧ p < q ∧ q < r ∧ r < 26) := by
  refine ⟨_, _, _, rfl, ?_, ?_⟩ <;> (unfold lo2 hi2; (repeat' split) <;> omega)
theorem hid_ex {x y z : Int} (hx : 0 ≤ x ∧ x < 26) (hy : 0 ≤ y ∧ y < 26) (hz : 0 ≤ z ∧ z < 26) (h1 : x ≠ y) (h2 : x ≠ z) (h3 : y ≠ z) : ∃ h k u v, Hid x y z h k u v := by
  obtain ⟨p, q, r, e, es, hr⟩ := ins3_ok hx hy hz h1 h2 h3
  have : (p + q + r) % 3 = 0 ∨ (p + q + r) % 3 = 1 ∨ (p + q + r) % 3 = 2 := by omega
  rcases this with h | h | h
  · exact ⟨_, _, _, _, p, q, r, e, es, hr, .inl ⟨h, rfl, rfl, rfl, rfl⟩⟩
  · exact ⟨_, _, _, _, p, q, r, e, es, hr, .inr (.inl ⟨h, rfl, rfl, rfl, rfl⟩)⟩
  · exact ⟨_, _, _, _, p, q, r, e, es, hr, .inr (.inr ⟨h, rfl, rfl, rfl, rfl⟩)⟩
/-- the eight thirds of a pair -/
theorem hid_th {n l h : Int} (hn : 0 ≤ n ∧ n < 8) (hl : 0 ≤ l) (hlh : l < h) (hh : h < 26) : Hid (rd n l h) h l (rd n l h) n l h ∧ (0 ≤ rd n l h ∧ rd n l h < 26) ∧ rd n l h ≠ h ∧ rd n l h ≠ l := by
  unfold rd br2v
  by_cases c1 : h - 1 ≤ 3 * n + -(l + (h + 0)) % 3
  · rw [if_pos c1]
    refine ⟨⟨l, h, 3 * n + -(l + (h + 0)) % 3 + 2, ?_, by omega, by omega, .inr (.inr ⟨by omega, rfl, by omega, rfl, rfl⟩)⟩, by omega, by omega, by omega⟩
    unfold ins3 lo2 hi2
    (repeat' split) <;> first | rfl | (exfalso; omega)
  · rw [if_neg c1]
    by_cases c2 : l ≤ 3 * n + -(l + (h + 0)) % 3
    · rw [if_pos c2]
      refine ⟨⟨l, 3 * n + -(l + (h + 0)) % 3 + 1, h, ?_, by omega, by omega, .inr (.inl ⟨by omega, rfl, by omega, rfl, rfl⟩)⟩, by omega, by omega, by omega⟩
      unfold ins3 lo2 hi2
      (repeat' split) <;> first | rfl | (exfalso; omega)
    · rw [if_neg c2]
      refine ⟨⟨3 * n + -(l + (h + 0)) % 3 + 0, l, h, ?_, by omega, by omega, .inl ⟨by omega, rfl, by omega, rfl, rfl⟩⟩, by omega, by omega, by omega⟩
      unfold ins3 lo2 hi2
      (repeat' split) <;> first | rfl | (exfalso; omega)
end
section
section
variable {w : World} {A : Around} {E : Value → Shared → Prop} {s : Shared} {value slice : PySem.Expr} {h₀ : Heap} {L D : Addr} {m : Str → Option Value} {news : List (Addr × Obj)} {n : Nat} {k : Int} {u t : Tok} {Q : Value → Shared → Prop}
noncomputable def veils : Str := Str.ofString "\u200d\u2060\ufe0f"
theorem r_veil {i : Int} (h0 : 0 ≤ i) (h1 : i < 3) (h : ∀ vv, isVeil vv = true → Q (.str ⟨#[vv]⟩ s.toks) { s with toks := s.toks + 1 })
    (hs : subscripted slice false (.str veils t) (.int i u) = operate [.str veils t, .int i u] (getItem (.str veils t) (.int i u)))
    (ht : ∀ r, letTemporaryGo value (.str veils t) r = pure ()) : wpAny (model pgm w) A (subscriptTail value slice (.str veils t) (.int i u)) Q E s := by
  have e : i = 0 ∨ i = 1 ∨ i = 2 := by omega
  have hl : (veils.length : Int) = 3 := by decide
  have hf : fitsSsize i = true := by rcases e with rfl | rfl | rfl <;> decide
  have hv : isVeil ((Txt.charAt veils i).getD 0) = true := by rcases e with rfl | rfl | rfl <;> decide +kernel
  exact item_str (x := veils) hf (by rw [hl]; omega) (by rw [hl]; exact h1) (fun _ => h _ hv) hs ht
theorem r_lij {l : List Value} {v : Value} (j : Nat) (e : k = (j : Int)) (hv : l[j]? = some v) (hj : j ≤ 64) (N : News h₀ L s.heap news) (hm : (D, listOf (List.toArray l) n) ∈ news) (h : Q v s)
    (hs : subscripted slice false (.ref D) (.int k u) = operate [.ref D, .int k u] (getItem (.ref D) (.int k u)) := by with_unfolding_all rfl) : wpAny (model pgm w) A (subscriptTail value slice (.ref D) (.int k u)) Q E s := by
  subst e; exact item_litK (N.isList hm) (by omega) (by omega) hv h hs
theorem perm_sorted_eq : ∀ {a b : List Int}, a.Perm b → a.Pairwise (· ≤ ·) → b.Pairwise (· ≤ ·) → a = b
  | [], b, p, _, _ => (List.Perm.nil_eq p)
  | x :: a, [], p, _, _ => (List.Perm.eq_nil p)
  | x :: a, y :: b, p, ha, hb => by
    have ha' := List.pairwise_cons.mp ha
    have hb' := List.pairwise_cons.mp hb
    have e : x = y := by
      have h1 : x ∈ y :: b := p.mem_iff.mp (List.mem_cons_self ..)
      have h2 : y ∈ x :: a := p.mem_iff.mpr (List.mem_cons_self ..)
      rcases List.mem_cons.mp h1 with e | h1
      · exact e
      rcases List.mem_cons.mp h2 with e | h2
      · exact e.symm
      have := ha'.1 y h2
      have := hb'.1 x h1
      omega
    subst e
    rw [perm_sorted_eq (List.Perm.cons_inv p) ha'.2 hb'.2]
theorem ins3_perm (a b c : Int) : (ins3 a b c).Perm [a, b, c] ∧ (ins3 a b c).Pairwise (· ≤ ·) := by
  unfold ins3 lo2 hi2
  constructor
  · (repeat' split) <;> first | exact List.Perm.refl _ | exact (List.Perm.swap _ _ _) | exact (List.Perm.cons _ (List.Perm.swap _ _ _)) | exact ((List.Perm.swap _ _ _).trans (List.Perm.cons _ (List.Perm.swap _ _ _))) | exact ((List.Perm.cons _ (List.Perm.swap _ _ _)).trans (List.Perm.swap _ _ _)) | exact ((List.Perm.swap _ _ _).trans ((List.Perm.cons _ (List.Perm.swap _ _ _)).trans (List.Perm.swap _ _ _))) | (exfalso; omega)
  · simp only [List.pairwise_cons, List.mem_cons, List.not_mem_nil, or_false, false_implies, implies_true, List.Pairwise.nil, and_true, forall_eq_or_imp, forall_eq]
    (repeat' split) <;> omega
theorem r_sort3 {a b c p q r : Int} {ta tb tc : Tok} (F : Fr h₀ L s.heap m) (N : News h₀ L s.heap news) (hm : (D, listOf #[.int a ta, .int b tb, .int c tc] n) ∈ news) (e : ins3 a b c = [p, q, r])
    (h : ∀ D' tp tq tr c' h', Fr h₀ L h' m → News h₀ L h' ((D', listOf #[.int p tp, .int q tq, .int r tr] c') :: news) → (∀ q ∈ news, q.1 < D') → Q (.ref D') { s with heap := h' }) : wpAny (model pgm w) A (call (.builtin "sorted") [.ref D]) Q E s := by
  refine kso_sorted (vs := [.int a ta, .int b tb, .int c tc]) (ns := [a, b, c]) F N (N.isList hm) (.cons _ _ (.cons _ _ (.cons _ _ .nil))) (by simp) fun D' vs' ns' c' h' F' N' l1 hi _ hp ho _ => ?_
  have e2 : ns' = ins3 a b c := perm_sorted_eq (hp.trans (ins3_perm a b c).1.symm) ho (ins3_perm a b c).2
  rw [e2, e] at hi
  obtain ⟨t1, t2, t3, g⟩ := ints_3 hi
  subst g
  exact h _ _ _ _ _ _ F' N' l1
theorem ins2_perm (a b : Int) : (ins2 a b).Perm [a, b] ∧ (ins2 a b).Pairwise (· ≤ ·) := by
  unfold ins2 lo2 hi2
  constructor
  · (repeat' split) <;> first | exact List.Perm.refl _ | exact (List.Perm.swap _ _ _) | (exfalso; omega)
  · simp only [List.pairwise_cons, List.mem_cons, List.not_mem_nil, or_false, false_implies, implies_true, List.Pairwise.nil, and_true, forall_eq_or_imp, forall_eq]
    (repeat' split) <;> omega
theorem r_sort2 {a b p q : Int} {ta tb : Tok} (F : Fr h₀ L s.heap m) (N : News h₀ L s.heap news) (hm : (D, listOf #[.int a ta, .int b tb] n) ∈ news) (e : ins2 a b = [p, q])
    (h : ∀ D' tp tq c' h', Fr h₀ L h' m → News h₀ L h' ((D', listOf #[.int p tp, .int q tq] c') :: news) → (∀ q ∈ news, q.1 < D') → Q (.ref D') { s with heap := h' }) : wpAny (model pgm w) A (call (.builtin "sorted") [.ref D]) Q E s := by
  refine kso_sorted (vs := [.int a ta, .int b tb]) (ns := [a, b]) F N (N.isList hm) (.cons _ _ (.cons _ _ .nil)) (by simp) fun D' vs' ns' c' h' F' N' l1 hi _ hp ho _ => ?_
  have e2 : ns' = ins2 a b := perm_sorted_eq (hp.trans (ins2_perm a b).1.symm) ho (ins2_perm a b).2
  rw [e2, e] at hi
  obtain ⟨t1, t2, g⟩ := ints_2 hi
  subst g
  exact h _ _ _ _ _ F' N' l1
theorem r_pick3 {p q r hh : Int} {tp tq tr : Tok} {X Y Z : Prop} (N : News h₀ L s.heap news) (hm : (D, listOf (List.toArray [.int p tp, .int q tq, .int r tr]) n) ∈ news) (e : k = (p + q + r) % 3) (hc : ((p + q + r) % 3 = 0 ∧ hh = p ∧ X) ∨ ((p + q + r) % 3 = 1 ∧ hh = q ∧ Y) ∨ ((p + q + r) % 3 = 2 ∧ hh = r ∧ Z))
    (h : ∀ t, Q (.int hh t) s) (hs : subscripted slice false (.ref D) (.int k u) = operate [.ref D, .int k u] (getItem (.ref D) (.int k u)) := by with_unfolding_all rfl) : wpAny (model pgm w) A (subscriptTail value slice (.ref D) (.int k u)) Q E s := by
  rcases hc with ⟨i, rfl, _⟩ | ⟨i, rfl, _⟩ | ⟨i, rfl, _⟩
  · exact r_li0 (by omega) N hm (h _) hs
  · exact r_li1 (by omega) N hm (h _) hs
  · exact r_li2 (by omega) N hm (h _) hs
end
theorem ins2_ok {x y : Int} (hx : 0 ≤ x ∧ x < 26) (hy : 0 ≤ y ∧ y < 26) (h1 : x ≠ y) : ∃ p q, ins2 x y = [p, q] ∧ 0 ≤ p ∧ p < q ∧ q < 26 := by
  refine ⟨_, _, rfl, ?_⟩
  unfold lo2 hi2; (repeat' split) <;> omega
section
variable {w : World} {f : Addr} {dep : Nat} {wr news : List (Addr × Obj)} {vs : List Value} {p : Program} {loose : List Str} {mean : ExcName → Option Value} {mg mb : Str → Option Value} {dp un : Nat} {gd : Option (List Code)} {cn : Str} {cs : Scope} {a : Addr} {ccd : Value} {cl : List (Str × Addr)} {outer : List Env} {A₀ : Around} {base h₀ : Heap} {L : Addr} {m : Str → Option Value} {s : Shared} {Q E : Value → Shared → Prop}
theorem use_any_hand3 (C : Spec w f dep wr vs (isHand3)) (hs : ∀ p ∈ wr, p ∈ news) (B : Below A₀ base outer h₀) (F : Fr h₀ L s.heap m) (X : (K w.params).In h₀) (N : News h₀ L s.heap news) (T : Top p loose mean mg mb h₀) (hk : cs.kind = .function) (hd : dp + dep < recursionLimit) (hu : un + 8 * dep < cLine)
    (h : ∀ (D9 : Addr) (a9 b9 c9 : Int) (ta9 tb9 tc9 : Tok) (n9 : Nat) h' tk', (0 ≤ a9 ∧ a9 < 26) → (0 ≤ b9 ∧ b9 < 26) → (0 ≤ c9 ∧ c9 < 26) → a9 ≠ b9 → a9 ≠ c9 → b9 ≠ c9 → Fr h₀ L h' m → News h₀ L h' ((D9, listOf #[.int a9 ta9, .int b9 tb9, .int c9 tc9] n9) :: news) → (∀ p ∈ news, p.1 ≠ D9) → Q (.ref D9) { s with heap := h', toks := tk' }) : wpAny (model pgm w) (ktrTop dp un gd cn cs L a ccd cl outer) (call (.ref f) vs) Q E s :=
  use_any C hs B F X N T hk hd hu fun r new h' tk' hR F' N' hf => by
    obtain ⟨D9, a9, b9, c9, ta9, tb9, tc9, n9, rfl, rfl, l1, l2, l3, k1, k2, k3⟩ := hR
    exact h D9 a9 b9 c9 ta9 tb9 tc9 n9 h' tk' l1 l2 l3 k1 k2 k3 F' N' (hf _ (.head _))
theorem use_any_hand2 (C : Spec w f dep wr vs (isHand2)) (hs : ∀ p ∈ wr, p ∈ news) (B : Below A₀ base outer h₀) (F : Fr h₀ L s.heap m) (X : (K w.params).In h₀) (N : News h₀ L s.heap news) (T : Top p loose mean mg mb h₀) (hk : cs.kind = .function) (hd : dp + dep < recursionLimit) (hu : un + 8 * dep < cLine)
    (h : ∀ (D9 : Addr) (a9 b9 : Int) (ta9 tb9 : Tok) (n9 : Nat) h' tk', (0 ≤ a9 ∧ a9 < 26) → (0 ≤ b9 ∧ b9 < 26) → a9 ≠ b9 → Fr h₀ L h' m → News h₀ L h' ((D9, listOf #[.int a9 ta9, .int b9 tb9] n9) :: news) → (∀ p ∈ news, p.1 ≠ D9) → Q (.ref D9) { s with heap := h', toks := tk' }) : wpAny (model pgm w) (ktrTop dp un gd cn cs L a ccd cl outer) (call (.ref f) vs) Q E s :=
  use_any C hs B F X N T hk hd hu fun r new h' tk' hR F' N' hf => by
    obtain ⟨D9, a9, b9, ta9, tb9, n9, rfl, rfl, l1, l2, k1⟩ := hR
    exact h D9 a9 b9 ta9 tb9 n9 h' tk' l1 l2 k1 F' N' (hf _ (.head _))
theorem use_any_typed {i j k : Int} (C : Spec w f dep wr vs (isTyped i j k)) (hs : ∀ p ∈ wr, p ∈ news) (B : Below A₀ base outer h₀) (F : Fr h₀ L s.heap m) (X : (K w.params).In h₀) (N : News h₀ L s.heap news) (T : Top p loose mean mg mb h₀) (hk : cs.kind = .function) (hd : dp + dep < recursionLimit) (hu : un + 8 * dep < cLine)
    (h : ∀ (a9 b9 c9 : Nat) (t9 : Tok) h' tk', isLetter a9 = true → isLetter b9 = true → isLetter c9 = true → ((lowL a9 : Nat) : Int) - 97 = i → ((lowL b9 : Nat) : Int) - 97 = j → ((lowL c9 : Nat) : Int) - 97 = k → Fr h₀ L h' m → News h₀ L h' news → Q (.str ⟨#[a9, b9, c9]⟩ t9) { s with heap := h', toks := tk' }) : wpAny (model pgm w) (ktrTop dp un gd cn cs L a ccd cl outer) (call (.ref f) vs) Q E s :=
  use_any C hs B F X N T hk hd hu fun r new h' tk' hR F' N' hf => by
    obtain ⟨rfl, a9, b9, c9, t9, rfl, ⟨l1, l2, l3⟩, k1, k2, k3⟩ := hR
    exact h a9 b9 c9 t9 h' tk' l1 l2 l3 k1 k2 k3 F' N'
end
/-- the made object o is a list with v at the place i -/
noncomputable def ElAt (o : Obj) (i : Int) (v : Value) : Prop := ∃ (vs : List Value) (n : Nat), o = listOf (List.toArray vs) n ∧ 0 ≤ i ∧ i < 2 ^ 63 ∧ vs[i.toNat]? = some v
theorem r_at {w : World} {A : Around} {E : Value → Shared → Prop} {s : Shared} {value slice : PySem.Expr} {h₀ : Heap} {L D : Addr} {o : Obj} {news : List (Addr × Obj)} {k : Int} {u : Tok} {v : Value} {Q : Value → Shared → Prop}
    (N : News h₀ L s.heap news) (hm : (D, o) ∈ news) (g : ElAt o k v) (h : Q v s) (hs : subscripted slice false (.ref D) (.int k u) = operate [.ref D, .int k u] (getItem (.ref D) (.int k u)) := by with_unfolding_all rfl) : wpAny (model pgm w) A (subscriptTail value slice (.ref D) (.int k u)) Q E s := by
  obtain ⟨vs, n, rfl, h0, h1, hv⟩ := g
  exact item_litK (N.isList hm) h0 h1 hv h hs
theorem el_ints {ws : List Value} {n : Nat} {k lo hi : Int} (h : IntsAre ws [rd 0 lo hi, rd 1 lo hi, rd 2 lo hi, rd 3 lo hi, rd 4 lo hi, rd 5 lo hi, rd 6 lo hi, rd 7 lo hi]) (h0 : 0 ≤ k) (h1 : k < 8) : ∃ t, ElAt (listOf (List.toArray ws) n) k (.int (rd k lo hi) t) := by
  have e : [rd 0 lo hi, rd 1 lo hi, rd 2 lo hi, rd 3 lo hi, rd 4 lo hi, rd 5 lo hi, rd 6 lo hi, rd 7 lo hi][k.toNat]? = some (rd k lo hi) := by
    have e : k = 0 ∨ k = 1 ∨ k = 2 ∨ k = 3 ∨ k = 4 ∨ k = 5 ∨ k = 6 ∨ k = 7 := by omega
    rcases e with rfl | rfl | rfl | rfl | rfl | rfl | rfl | rfl <;> rfl
  obtain ⟨t, ht⟩ := IntsAre.get h _ _ e
  exact ⟨t, ws, n, rfl, h0, Int.lt_trans h1 (by decide), ht⟩
end
section
theorem fill_Law1 : K = K ∧ PySem.Challenge.rw_sn0097_01 = PySem.Challenge.rw_sn0097_01 := by k_fill; exact ⟨rfl, rfl⟩
local macro_rules | `(tactic| k_room) => `(tactic| (ktr_room))
local macro_rules | `(tactic| walk_at "exec Assign cons ListComp") => `(tactic| refine Stk.out (k := 26) ?_)
noncomputable def lawBody : List Stmt := match stAt 31 with
  | .FunctionDef _ _ body _ _ _ _ _ _ _ => body
  | _ => []
noncomputable def lawScope : Scope := match stAt 31 with
  | .FunctionDef _ _ _ _ _ _ scope _ _ _ => scope
  | _ => default
theorem law_lit {nm : Str} {args : Arguments} {body : List Stmt} {x1 : List PySem.Expr} {x2 : Option PySem.Expr} {x3 : List TypeParam} {scope : Scope} {x4 : Option Scope} {x5 : Str} {x6 : Pos} {P : List Stmt → Scope → Prop}
    (e : stAt 31 = .FunctionDef nm args body x1 x2 x3 scope x4 x5 x6) (h : P body scope) : P lawBody lawScope := by
  have h1 : lawBody = body := by unfold lawBody; rw [e]
  have h2 : lawScope = scope := by unfold lawScope; rw [e]
  rw [h1, h2]; exact h
theorem fm_bd (a : Int) : 0 ≤ a.fmod (10 ^ Int.toNat 6) ∧ a.fmod (10 ^ Int.toNat 6) < 1000000 := by
  have e : (10 : Int) ^ Int.toNat 6 = 1000000 := by decide
  rw [e]
  exact ⟨Int.fmod_nonneg_of_pos _ (by decide), Int.fmod_lt_of_pos _ (by decide)⟩
theorem allLt_mem {x : Addr} {l l' : List (Addr × Obj)} (h : AllLt x l) (hs : ∀ p ∈ l', p ∈ l) : ∀ p ∈ l', p.1 < x := fun p hp => ktn_ltOf h p (hs p hp)
theorem slice_drop {items : List Value} {n : Nat} (hn : n ≤ items.length) : (slicePick items.toArray (some (n : Int)) none none).toList = items.drop n := by
  rw [kms_pick_eq]
  unfold kms_pick kms_lo kms_hi
  simp only [List.toList_toArray]
  rw [if_neg (by omega), Int.toNat_natCast, Nat.min_eq_left hn]
  rw [List.take_of_length_le (Nat.le_of_eq List.length_drop)]
theorem ints_drop {vs : List Value} {ds : List Int} (h : IntsAre vs ds) : ∀ n : Nat, IntsAre (vs.drop n) (ds.drop n) := by
  induction h with
  | nil => intro n; rw [List.drop_nil, List.drop_nil]; exact .nil
  | cons a t h ih =>
    intro n
    cases n with
    | zero => exact .cons a t h
    | succ n => exact ih n
theorem list7 {l : List Int} (h : l.length = 7) : ∃ a b c d e f g, l = [a, b, c, d, e, f, g] := by
  match l, h with
  | [a, b, c, d, e, f, g], _ => exact ⟨a, b, c, d, e, f, g, rfl⟩
theorem ints_7 {vs : List Value} {d0 d1 d2 d3 d4 d5 d6 : Int} (h : IntsAre vs [d0, d1, d2, d3, d4, d5, d6]) : ∃ t0 t1 t2 t3 t4 t5 t6, vs = [.int d0 t0, .int d1 t1, .int d2 t2, .int d3 t3, .int d4 t4, .int d5 t5, .int d6 t6] := by
  cases h with | cons _ _ h => cases h with | cons _ _ h => cases h with | cons _ _ h => cases h with | cons _ _ h => cases h with | cons _ _ h => cases h with | cons _ _ h => cases h with | cons _ _ h => cases h; exact ⟨_, _, _, _, _, _, _, rfl⟩
noncomputable def lits7 : List Int := [10, 20, 3, 700, 11, 5, 9]
theorem draws_mk {g : Heap} {L D : Addr} {news : List (Addr × Obj)} {s : Shared} {h : Heap} {tk : Nat} {m : Str → Option Value} {zs : List Value} {dl : List Int} {n k : Nat} (hk : (List.take 7 dl).length = k) (F : Fr g L h (fun y => if y = Str.ofString "draws" then some (.ref D) else m y)) (N : News g L h ((D, listOf zs.toArray n) :: news)) (hD : ∀ p ∈ news, p.1 < D)
    (hi : IntsAre zs ((List.take 7 dl).map (fun x => x.fmod (10 ^ Int.toNat 6)) ++ lits7.drop k)) : DrawsAt g L news s { s with heap := h, toks := tk } := by
  have hl8 : (List.take 7 dl).length ≤ 7 := List.length_take_le 7 dl
  have hb : ∀ x ∈ (List.take 7 dl).map (fun x => x.fmod (10 ^ Int.toNat 6)) ++ lits7.drop k, 0 ≤ x ∧ x < 1000000 := by
    intro x hx
    rcases List.mem_append.mp hx with hx | hx
    · obtain ⟨y, _, rfl⟩ := List.mem_map.mp hx
      exact fm_bd y
    · have := List.mem_of_mem_drop hx
      simp only [lits7, List.mem_cons, List.not_mem_nil, or_false] at this
      omega
  have hl : ((List.take 7 dl).map (fun x => x.fmod (10 ^ Int.toNat 6)) ++ lits7.drop k).length = 7 := by
    rw [List.length_append, List.length_map, List.length_drop, hk]
    have : lits7.length = 7 := rfl
    omega
  obtain ⟨a, b, c, d, e, f, q, hL⟩ := list7 hl
  rw [hL] at hi hb
  obtain ⟨t0, t1, t2, t3, t4, t5, t6, rfl⟩ := ints_7 hi
  exact ⟨D, a, b, c, d, e, f, q, t0, t1, t2, t3, t4, t5, t6, n, h, tk, m, rfl, F, N, hD, hb a (by simp), hb b (by simp), hb c (by simp), hb d (by simp), hb e (by simp), hb f (by simp), hb q (by simp)⟩
noncomputable def P1 (body : List Stmt) (scope : Scope) : Prop :=
  ∀ (w : World) (p : Program) (loose : List Str) (mean : ExcName → Option Value) (mg mb : Str → Option Value) (g : Heap) (L f : Addr) (cd : Value) (S : Addr) (ws : List Value) (dl : List Int) (k1 k2 t1 t2 : Obj) (s : Shared) (E : Value → Shared → Prop),
    Fr g L s.heap (bindL (envOfC (Str.ofString "law") scope L f cd).kindOf [(Str.ofString "script", .ref S)] fun _ => none) → News g L s.heap [(L + 1 + 1, k2), (L + 1, k1), (51, t2), (44, t1)] → 51 < L ∧ 44 < L →
    Below callerA g [] g → (K w.params).In g → Top p loose mean mg mb g → g.IsList S ws.toArray → IntsAre ws dl → ¬ (63 : Int) < (dl.length : Int) →
    wpAny (model pgm w) (callerA.deeper (envOfC (Str.ofString "law") scope L f cd)) (execs (body.take 2) (envOfC (Str.ofString "law") scope L f cd)) (fun fl s' => fl = .next ∧ DrawsAt g L [(L + 1 + 1, k2), (L + 1, k1), (51, t2), (44, t1)] s s') E s
set_option maxHeartbeats 4000000 in
theorem law_draws : P1 lawBody lawScope := by
  refine law_lit (P := P1) (by exact rfl) ?_
  intro w p loose mean mg mb g L f cd S ws dl k1 k2 t1 t2 s E F N hL B X T hS hI hlen
  simp only [List.take]
  iterate 10 (try ((first | (k_unfold; (try dsimp only)) | (k_end; wrow_close) | walk1 | (dsimp only; walk1) | (leave1; walk_say "STEP leave1"; (try dsimp only)) | fail "no step") <;> (repeat' (first
    | (refine Stk.mk (k := 26) ?_; with_reducible ((k_here; k_dflt (refine LCg.Assign_ListComp_U (F₀ := by k_asm) (by rfl) (by with_unfolding_all rfl) (by with_unfolding_all rfl) (by decide) (by rfl) (by decide) (by rfl) (by rfl) (by rfl) ?_))))))))
  rename IntsAre _ (List.take 7 dl) => hI7
  have hl7 := hI7.length
  have hl8 : (List.take 7 dl).length ≤ 7 := List.length_take_le 7 dl
  k_here
  refine LCg.CompSrc.ledger (by rfl) (by k_asm) (by k_asm) (by k_mem) (by rw [sizeLine_eq, List.size_toArray]; omega) ?_
  intro g'
  refine' kcf_list (fun x => x.fmod (10 ^ Int.toNat 6)) hI7 (fun k' t' I' oI' C' oC' D' m' ys' h' tk' E' hk' hC' hx' F' N' off' ne' mk' => ?cTurn) ?cFin
  case cTurn =>
    obtain ⟨o1', o2', o3'⟩ := off3_split off'
    clear off'
    obtain ⟨n1', n2', n3'⟩ := ne3_split ne'
    clear ne' mk'
    repeat' ((first | (k_unfold; (try dsimp only)) | (k_end; kc_close) | walk1 | (dsimp only; walk1) | (leave1; walk_say "STEP leave1"; (try dsimp only)) | fail "no step") <;> (repeat' (first
    | (refine Stk.mk (k := 26) ?_; with_reducible ((k_here; k_dflt (refine LCg.Assign_ListComp_U (F₀ := by k_asm) (by rfl) (by with_unfolding_all rfl) (by with_unfolding_all rfl) (by decide) (by rfl) (by decide) (by rfl) (by rfl) (by rfl) ?_)))))))
    exact ⟨rfl, _, rfl⟩
  case cFin =>
    show ∀ ys, IntsAre ys ((List.take 7 dl).map fun x => x.fmod (10 ^ Int.toNat 6)) → _
    intro ys hys
    have hyl := hys.length
    rw [List.length_map] at hyl
    unfold LCg.FinA
    intro D8 h8 tk8 F8 N8 o8
    replace o8 := off1_split o8
    (try simp only [List.nil_append, List.cons_append] at N8)
    iterate 30 (try ((first | (k_unfold; (try dsimp only)) | (k_end; wrow_close) | walk1 | (dsimp only; walk1) | (leave1; walk_say "STEP leave1"; (try dsimp only)) | fail "no step") <;> (repeat' (first
    | (refine Stk.mk (k := 26) ?_; with_reducible ((k_here; k_dflt (refine LCg.Assign_ListComp_U (F₀ := by k_asm) (by rfl) (by with_unfolding_all rfl) (by with_unfolding_all rfl) (by decide) (by rfl) (by decide) (by rfl) (by rfl) (by rfl) ?_))))))))
    k_here
    k_dflt (refine' r_len (ys := ys) (k := (List.take 7 dl).length) ?rN ?rM hys ?rL ?rK ?_; (case rN => k_asm); (case rM => with_unfolding_all exact List.Mem.tail _ (List.Mem.head _)); (case rL => rw [List.length_map]); (case rK => omega))
    iterate 2 (try ((first | (k_unfold; (try dsimp only)) | (k_end; wrow_close) | walk1 | (dsimp only; walk1) | (leave1; walk_say "STEP leave1"; (try dsimp only)) | fail "no step") <;> (repeat' (first
    | (refine Stk.mk (k := 26) ?_; with_reducible ((k_here; k_dflt (refine LCg.Assign_ListComp_U (F₀ := by k_asm) (by rfl) (by with_unfolding_all rfl) (by with_unfolding_all rfl) (by decide) (by rfl) (by decide) (by rfl) (by rfl) (by rfl) ?_))))))))
    k_here
    refine' r_slice_tmp (j := (((List.take 7 dl).length : Nat) : Int)) rfl ?sF ?sN ?sM (slice_drop ?sL) ?_ ?sS ?sY
    case sF => k_asm
    case sN => k_asm
    case sM => k_mem
    case sL => exact hl8
    case sS => with_unfolding_all rfl
    case sY => exact Nat.le_of_ble_eq_true rfl
    intro D9 h9 F9 N9 l9
    k_lt l9
    k_here
    refine' kmk_add_lit ?aF ?aN (N9.isList (news := _) (List.Mem.tail _ (List.Mem.tail _ (List.Mem.head _)))) (N9.isList (List.Mem.head _)) rfl ?_ ?aZ
    case aF => k_asm
    case aN => k_asm
    case aZ => (rw [sizeLine_eq]; simp only [List.toList_toArray, List.length_drop]; simp; omega)
    intro D7 h7 F7 N7 l7
    k_lt l7
    repeat' ((first | (k_unfold; (try dsimp only)) | (k_end; kc_close) | walk1 | (dsimp only; walk1) | (leave1; walk_say "STEP leave1"; (try dsimp only)) | fail "no step") <;> (repeat' (first
    | (refine Stk.mk (k := 26) ?_; with_reducible ((k_here; k_dflt (refine LCg.Assign_ListComp_U (F₀ := by k_asm) (by rfl) (by with_unfolding_all rfl) (by with_unfolding_all rfl) (by decide) (by rfl) (by decide) (by rfl) (by rfl) (by rfl) ?_)))))))
    exact draws_mk (dl := dl) rfl (by k_asm) (news_sub (by k_asm) (subC (by k_mem) (subC (by k_mem) (subC (by k_mem) (subC (by k_mem) (subC (by k_mem) sub0)))))) (ktn_ltOf ⟨by omega, by omega, by omega, by omega, True.intro⟩) (hys.append (ints_drop (.cons _ _ (.cons _ _ (.cons _ _ (.cons _ _ (.cons _ _ (.cons _ _ (.cons _ _ .nil))))))) _))
end
section
theorem fill_LawAll : K = K ∧ PySem.Challenge.rw_sn0097_01 = PySem.Challenge.rw_sn0097_01 := by k_fill; exact ⟨rfl, rfl⟩
local macro_rules | `(tactic| k_room) => `(tactic| (ktr_room))
local macro_rules | `(tactic| walk_at "subscriptTail Name Constant ref int") => `(tactic| refine Stk.out (k := 25) ?_)
local macro_rules | `(tactic| walk_at "call builtin:sorted") => `(tactic| refine Stk.out (k := 29) ?_)
local macro_rules | `(tactic| walk_at "subscriptTail") => `(tactic| refine Stk.out (k := 14) ?_)
inductive MidAt (g : Heap) (L : Addr) (k1 k2 : Obj) (s s' : Shared) : Prop
  | mk (D : Addr) (d0 d1 d2 d3 d4 d5 d6 : Int) (t0 t1 t2 t3 t4 t5 t6 : Tok) (n : Nat) (vv : Nat) (vt : Tok) (o1 : Obj) (x : Addr) (ox : Obj) (o2 : Obj) (y : Addr) (oy : Obj) (h : Heap) (tk : Nat) (m : Str → Option Value) (fl1 : s' = { s with heap := h, toks := tk }) (fl2 : Fr g L h m) (fl3 : m (Str.ofString "draws") = some (.ref D)) (fl4 : m (Str.ofString "veil") = some (.str ⟨#[vv]⟩ vt)) (fl5 : isVeil vv = true) (fl6 : News g L h [(D, listOf #[.int d0 t0, .int d1 t1, .int d2 t2, .int d3 t3, .int d4 t4, .int d5 t5, .int d6 t6] n), (44, o1), (x, ox), (51, o2), (y, oy), (L + 1 + 1, k2), (L + 1, k1)]) (fl7 : St 44 80 4 q1 o1 x ox) (fl8 : St 51 95 4 q2 o2 y oy) (fl9 : x ≠ 44) (fl10 : x ≠ 51) (fl11 : y ≠ 44) (fl12 : y ≠ 51) (fl13 : D ≠ 44) (fl14 : D ≠ 51) (fl15 : x ≠ L + 1) (fl16 : x ≠ L + 1 + 1) (fl17 : y ≠ L + 1) (fl18 : y ≠ L + 1 + 1) (fl19 : D ≠ L + 1) (fl20 : D ≠ L + 1 + 1) (fl21 : (0 ≤ d0 ∧ d0 < 1000000)) (fl22 : (0 ≤ d1 ∧ d1 < 1000000)) (fl23 : (0 ≤ d2 ∧ d2 < 1000000)) (fl24 : (0 ≤ d3 ∧ d3 < 1000000)) (fl25 : (0 ≤ d4 ∧ d4 < 1000000)) (fl26 : (0 ≤ d5 ∧ d5 < 1000000)) (fl27 : (0 ≤ d6 ∧ d6 < 1000000)) : MidAt g L k1 k2 s s'
theorem st_empty {P x : Addr} {l c : Nat} {q : Str} {ox : Obj} : St P l c q (tabObj #[]) x ox := .inl rfl
noncomputable def P2 (body : List Stmt) (scope : Scope) : Prop :=
  ∀ (w : World) (p : Program) (loose : List Str) (mean : ExcName → Option Value) (mg mb : Str → Option Value) (g : Heap) (L f : Addr) (cd : Value) (k1 k2 : Obj) (s : Shared) (E : Value → Shared → Prop) (D : Addr) (d0 d1 d2 d3 d4 d5 d6 : Int) (t0 t1 t2 t3 t4 t5 t6 : Tok) (n : Nat) (m : Str → Option Value),
    Fr g L s.heap (fun y => if y = Str.ofString "draws" then some (.ref D) else m y) → News g L s.heap [(D, listOf #[.int d0 t0, .int d1 t1, .int d2 t2, .int d3 t3, .int d4 t4, .int d5 t5, .int d6 t6] n), (L + 1 + 1, k2), (L + 1, k1), (51, tabObj #[]), (44, tabObj #[])] →
    (∀ p ∈ [(L + 1 + 1, k2), (L + 1, k1), (51, tabObj #[]), (44, tabObj #[])], p.1 < D) → (@LT.lt Nat _ 51 L ∧ @LT.lt Nat _ 44 L) →
    (0 ≤ d0 ∧ d0 < 1000000) → (0 ≤ d1 ∧ d1 < 1000000) → (0 ≤ d2 ∧ d2 < 1000000) → (0 ≤ d3 ∧ d3 < 1000000) → (0 ≤ d4 ∧ d4 < 1000000) → (0 ≤ d5 ∧ d5 < 1000000) → (0 ≤ d6 ∧ d6 < 1000000) →
    Below callerA g [] g → (K w.params).In g → Top p loose mean mg mb g →
    wpAny (model pgm w) (callerA.deeper (envOfC (Str.ofString "law") scope L f cd)) (execs ((body.drop 2).take 4) (envOfC (Str.ofString "law") scope L f cd)) (fun fl s' => fl = .next ∧ MidAt g L k1 k2 s s') E s
set_option maxHeartbeats 4000000 in
theorem law_p2 : P2 lawBody lawScope := by
  refine law_lit (P := P2) (by exact rfl) ?_
  intro w p loose mean mg mb g L f cd k1 k2 s E D d0 d1 d2 d3 d4 d5 d6 t0 t1 t2 t3 t4 t5 t6 n m F N hDl hL b0 b1 b2 b3 b4 b5 b6 B X T
  k_lt hDl
  have S1 : St 44 80 4 q1 (tabObj #[]) D (listOf #[.int d0 t0, .int d1 t1, .int d2 t2, .int d3 t3, .int d4 t4, .int d5 t5, .int d6 t6] n) := st_empty
  have S2 : St 51 95 4 q2 (tabObj #[]) D (listOf #[.int d0 t0, .int d1 t1, .int d2 t2, .int d3 t3, .int d4 t4, .int d5 t5, .int d6 t6] n) := st_empty
  simp only [List.take, List.drop]
  repeat' ((first | (k_unfold; (try dsimp only)) | (k_end; kc_close) | walk1 | (dsimp only; walk1) | (leave1; walk_say "STEP leave1"; (try dsimp only)) | fail "no step") <;> (repeat' (first
    | (refine Stk.mk (k := 1) ?_; with_reducible ((k_here; k_dflt (first | ((with_reducible show wpAny _ _ (call (Value.ref 166) _) _ _ _); (refine' use_any_hand3 (c_hand3 _ _ _ _ _ _ _ _ _) ?hs ?B ?F ?X ?N ?T ?hk ?hd ?hu ?_; (case N => k_asm); (case hs => exact subC (by k_mem) sub0); (case B => k_asm); (case F => k_asm); (case X => k_asm); (case T => k_asm); (case hk => first | exact rfl | assumption); (case hd => first | ktr_room | omega); (case hu => first | ktr_units | omega)); (intro D9 a9 b9 c9 ta9 tb9 tc9 n9 h9 tk9 l1 l2 l3 k1 k2 k3 F9 N9 hf9); (obtain ⟨hh9, hk9, hu9, hv9, H9⟩ := hid_ex l1 l2 l3 k1 k2 k3); (have H8 := H9); (obtain ⟨p9, q9, r9, hi9, hs9, hr9, hc9⟩ := H8); (obtain ⟨g1, g2, g3, g4, g5, g6⟩ := hid_rd H9)) | ((with_reducible show wpAny _ _ (call (Value.ref 166) _) _ _ _); (refine' use_any_hand2 (c_hand2 _ _ _ _ _ _ _) ?hs ?B ?F ?X ?N ?T ?hk ?hd ?hu ?_; (case N => k_asm); (case hs => exact subC (by k_mem) sub0); (case B => k_asm); (case F => k_asm); (case X => k_asm); (case T => k_asm); (case hk => first | exact rfl | assumption); (case hd => first | ktr_room | omega); (case hu => first | ktr_units | omega)); (intro D9 a9 b9 ta9 tb9 n9 h9 tk9 l1 l2 k1 F9 N9 hf9); (obtain ⟨p9, q9, hi9, hr1, hr2, hr3⟩ := ins2_ok l1 l2 k1)) | ((with_reducible show wpAny _ _ (call (Value.ref 173) _) _ _ _); (refine' use_any_typed (c_typedE _ _ _ _ _ _ _ _ _ _ _ ?l1 ?l2 ?l3 ?l4) ?hs ?B ?F ?X ?N ?T ?hk ?hd ?hu ?_; (case N => k_asm); (case hs => exact subC (by k_mem) sub0); (case B => k_asm); (case F => k_asm); (case X => k_asm); (case T => k_asm); (case hk => first | exact rfl | assumption); (case hd => first | ktr_room | omega); (case hu => first | ktr_units | omega); (case l1 => omega); (case l2 => omega); (case l3 => omega); (case l4 => omega)); (intro a9 b9 c9 t9 h9 tk9 l1 l2 l3 k1 k2 k3 F9 N9)) | ((with_reducible show wpAny _ _ (call (Value.ref 202) _) _ _ _); (refine' use_str (c_msgE _ _ _ _ _ _ _ _ _ ?l1 ?l2 ?l3) ?hs ?B ?F ?X ?N ?T ?hk ?hd ?hu ?_; (case l1 => omega); (case l2 => omega); (case l3 => omega); (case N => k_asm); (case hs => exact sub0); (case B => k_asm); (case F => k_asm); (case X => k_asm); (case T => k_asm); (case hk => first | exact rfl | assumption); (case hd => first | ktr_room | omega); (case hu => first | ktr_units | omega)); (intro t9 h9 tk9 F9 N9)) | ((with_reducible show wpAny _ _ (call (Value.ref 190) _) _ _ _); (refine' use_two_hs (c_wriE _ _ _ _ _ _ _ ?l1 ?l2 ?l3 _ _ _ ?k1 ?k2 ?k3 ?k4 _ _ _ _ ?H _ _ _ _ _ _ ?S ?S2 ?h1 ?h2 ?h3 ?h4) ?hs ?B ?F ?X ?N ?T ?hk ?hd ?hu ?U ?U2 ?_; (case S => with_reducible assumption); (case S2 => with_reducible assumption); (case N => k_asm); (case hs => exact subC (by k_mem) (subC (by k_mem) (subC (by k_mem) (subC (by k_mem) sub0)))); (case B => k_asm); (case F => k_asm); (case X => k_asm); (case T => k_asm); (case hk => first | exact rfl | assumption); (case hd => first | ktr_room | omega); (case hu => first | ktr_units | omega); (case l1 => with_reducible assumption); (case l2 => with_reducible assumption); (case l3 => with_reducible assumption); (case k1 => with_reducible assumption); (case k2 => with_reducible assumption); (case k3 => with_reducible assumption); (case k4 => with_reducible assumption); (case H => with_reducible assumption); (case h1 => exact ofNe (by k_ne)); (case h2 => exact ofNe (by k_ne)); (case h3 => exact ofNe (by k_ne)); (case h4 => exact ofNe (by k_ne)); (case U => k_updF); (case U2 => (intro o9'; (try dsimp only); k_updF))); (intro T9 t9 u9 x9 ox9 y9 oy9 h9 tk9 S8 S9 hC9 hD9 F9 N9 hf9 ho1 ho2 ho3 ho4 hv8 hv9); (try dsimp only [List.cons_append, List.nil_append] at N9)) | ((with_reducible show wpAny _ _ (call (Value.ref 195) _) _ _ _); (refine' use_two_int (c_rdE _ _ _ _ _ _ ?l1 ?l2 ?l3 ?l4 ?l5 _ _ _ _ _ _ ?S ?S2 ?h1 ?h2 ?h3 ?h4) ?hs ?B ?F ?X ?N ?T ?hk ?hd ?hu ?U ?U2 ?_; (case S => with_reducible assumption); (case S2 => with_reducible assumption); (case N => k_asm); (case hs => exact subC (by k_mem) (subC (by k_mem) (subC (by k_mem) (subC (by k_mem) sub0)))); (case B => k_asm); (case F => k_asm); (case X => k_asm); (case T => k_asm); (case hk => first | exact rfl | assumption); (case hd => first | ktr_room | omega); (case hu => first | ktr_units | omega); (case l1 => with_reducible assumption); (case l2 => omega); (case l3 => omega); (case l4 => omega); (case l5 => omega); (case h1 => exact ofNe (by k_ne)); (case h2 => exact ofNe (by k_ne)); (case h3 => exact ofNe (by k_ne)); (case h4 => exact ofNe (by k_ne)); (case U => k_updF); (case U2 => (intro o9'; (try dsimp only); k_updF))); (intro t9 x9 ox9 y9 oy9 h9 tk9 S8 S9 hC9 hD9 F9 N9 ho1 ho2 ho3 ho4 hv8 hv9); (try dsimp only [List.cons_append, List.nil_append] at N9))); (try dsimp only); (try k_fold))))
    | (refine Stk.mk (k := 25) ?_; with_reducible ((k_here; (with_reducible show wpAny _ _ (subscriptTail _ _ (Value.ref _) (Value.int _ _)) _ _ _); k_dflt (first | (refine' r_lij 0 ?e ?v ?j ?N ?m ?_ ?s; (case e => decide); (case j => decide); (case N => k_asm); (case m => k_mem); (case v => exact rfl); (case s => with_unfolding_all rfl)) | (refine' r_lij 1 ?e ?v ?j ?N ?m ?_ ?s; (case e => decide); (case j => decide); (case N => k_asm); (case m => k_mem); (case v => exact rfl); (case s => with_unfolding_all rfl)) | (refine' r_lij 2 ?e ?v ?j ?N ?m ?_ ?s; (case e => decide); (case j => decide); (case N => k_asm); (case m => k_mem); (case v => exact rfl); (case s => with_unfolding_all rfl)) | (refine' r_lij 3 ?e ?v ?j ?N ?m ?_ ?s; (case e => decide); (case j => decide); (case N => k_asm); (case m => k_mem); (case v => exact rfl); (case s => with_unfolding_all rfl)) | (refine' r_lij 4 ?e ?v ?j ?N ?m ?_ ?s; (case e => decide); (case j => decide); (case N => k_asm); (case m => k_mem); (case v => exact rfl); (case s => with_unfolding_all rfl)) | (refine' r_lij 5 ?e ?v ?j ?N ?m ?_ ?s; (case e => decide); (case j => decide); (case N => k_asm); (case m => k_mem); (case v => exact rfl); (case s => with_unfolding_all rfl)) | (refine' r_lij 6 ?e ?v ?j ?N ?m ?_ ?s; (case e => decide); (case j => decide); (case N => k_asm); (case m => k_mem); (case v => exact rfl); (case s => with_unfolding_all rfl))))))
    | (refine Stk.mk (k := 29) ?_; with_reducible ((k_here; k_dflt (first | (refine' r_sort3 ?F ?N ?m ?e ?_; (case F => k_asm); (case N => k_asm); (case m => k_mem); (case e => with_reducible assumption); (intro D8 tp8 tq8 tr8 c8 h8 F8 N8 l8; (try k_lt l8))) | (refine' r_sort2 ?F ?N ?m ?e ?_; (case F => k_asm); (case N => k_asm); (case m => k_mem); (case e => with_reducible assumption); (intro D8 tp8 tq8 c8 h8 F8 N8 l8; (try k_lt l8)))))))
    | (refine Stk.mk (k := 14) ?_; first | with_reducible ((k_here; (with_reducible show wpAny _ _ (subscriptTail _ _ (Value.ref _) (Value.int _ _)) _ _ _); k_dflt (refine' r_pick3 ?N ?m ?e ?c ?_ ?s; (case N => k_asm); (case m => k_mem); (case c => with_reducible assumption); (case e => first | (simp only [Int.fmod_eq_emod_of_nonneg _ (show (0 : Int) ≤ 3 by decide)]; omega) | omega); (case s => with_unfolding_all rfl)); (intro t8))) | with_reducible ((k_here; k_dflt (refine' r_veil ?e1 ?e2 ?_ ?s ?t; (case e1 => first | exact Int.fmod_nonneg_of_pos _ (by decide) | omega); (case e2 => first | exact Int.fmod_lt_of_pos _ (by decide) | omega); (case s => with_unfolding_all rfl); (case t => (intro _; with_unfolding_all rfl))); (intro v9 hv9)))))))
  refine' ⟨D, d0, d1, d2, d3, d4, d5, d6, t0, t1, t2, t3, t4, t5, t6, n, _, _, _, _, _, _, _, _, _, _, _, rfl, ?oF, ?oD, ?oV, ?oI, ?oN, ?oS, ?oT, ?o1, ?o2, ?o3, ?o4, ?o5, ?o6, ?o7, ?o8, ?o9, ?oa, ?ob, ?oc, b0, b1, b2, b3, b4, b5, b6⟩
  case oS => with_reducible assumption
  case oT => with_reducible assumption
  case oF => k_asm
  case oD => with_unfolding_all rfl
  case oV => with_unfolding_all rfl
  case oI => with_reducible assumption
  case oN => exact news_sub (by k_asm) (subC (by k_mem) (subC (by k_mem) (subC (by k_mem) (subC (by k_mem) (subC (by k_mem) (subC (by k_mem) (subC (by k_mem) sub0)))))))
  case o1 => k_ne
  case o2 => k_ne
  case o3 => k_ne
  case o4 => k_ne
  case o5 => k_ne
  case o6 => k_ne
  case o7 => k_ne
  case o8 => k_ne
  case o9 => k_ne
  case oa => k_ne
  case ob => k_ne
  case oc => k_ne
inductive LowAt (g : Heap) (L D : Addr) (O : Obj) (vv : Nat) (vt : Tok) (o1 : Obj) (x : Addr) (ox : Obj) (o2 : Obj) (y : Addr) (oy : Obj) (s s' : Shared) : Prop
  | mk (lo hi : Int) (tlo thi : Tok) (k1 k2 : Obj) (h : Heap) (tk : Nat) (m : Str → Option Value) (fl1 : s' = { s with heap := h, toks := tk }) (fl2 : Fr g L h m) (fl3 : m (Str.ofString "draws") = some (.ref D)) (fl4 : m (Str.ofString "veil") = some (.str ⟨#[vv]⟩ vt)) (fl5 : (0 ≤ lo ∧ lo < hi ∧ hi < 26)) (fl6 : k1.data = .cell (some (.int lo tlo))) (fl7 : k2.data = .cell (some (.int hi thi))) (fl8 : News g L h [(D, O), (44, o1), (x, ox), (51, o2), (y, oy), (L + 1 + 1, k2), (L + 1, k1)]) : LowAt g L D O vv vt o1 x ox o2 y oy s s'
inductive ThirdAt (g : Heap) (L D : Addr) (O : Obj) (vv : Nat) (vt : Tok) (lo hi : Int) (o1 : Obj) (x : Addr) (ox : Obj) (o2 : Obj) (y : Addr) (oy k1 k2 : Obj) (s s' : Shared) : Prop
  | mk (TH : Addr) (ws : List Value) (nt : Nat) (h : Heap) (tk : Nat) (m : Str → Option Value) (fl1 : s' = { s with heap := h, toks := tk }) (fl2 : Fr g L h m) (fl3 : m (Str.ofString "draws") = some (.ref D)) (fl4 : m (Str.ofString "veil") = some (.str ⟨#[vv]⟩ vt)) (fl5 : m (Str.ofString "thirds") = some (.ref TH)) (fl6 : IntsAre ws [rd 0 lo hi, rd 1 lo hi, rd 2 lo hi, rd 3 lo hi, rd 4 lo hi, rd 5 lo hi, rd 6 lo hi, rd 7 lo hi]) (fl7 : News g L h [(TH, listOf (List.toArray ws) nt), (D, O), (44, o1), (x, ox), (51, o2), (y, oy), (L + 1 + 1, k2), (L + 1, k1)]) (fl8 : TH ≠ 44) (fl9 : TH ≠ 51) : ThirdAt g L D O vv vt lo hi o1 x ox o2 y oy k1 k2 s s'
noncomputable def P3a (body : List Stmt) (scope : Scope) : Prop :=
  ∀ (w : World) (p : Program) (loose : List Str) (mean : ExcName → Option Value) (mg mb : Str → Option Value) (g : Heap) (L f : Addr) (cd : Value) (k1 k2 : Obj) (s : Shared) (E : Value → Shared → Prop) (D : Addr) (d0 d1 d2 d3 d4 d5 d6 : Int) (t0 t1 t2 t3 t4 t5 t6 : Tok) (n : Nat) (vv : Nat) (vt : Tok) (o1 : Obj) (x : Addr) (ox : Obj) (o2 : Obj) (y : Addr) (oy : Obj) (m : Str → Option Value),
    Fr g L s.heap (fun y => if y = Str.ofString "draws" then some (.ref D) else if y = Str.ofString "veil" then some (.str ⟨#[vv]⟩ vt) else m y) →
    News g L s.heap [(D, listOf #[.int d0 t0, .int d1 t1, .int d2 t2, .int d3 t3, .int d4 t4, .int d5 t5, .int d6 t6] n), (44, o1), (x, ox), (51, o2), (y, oy), (L + 1 + 1, k2), (L + 1, k1)] →
    k1.data = .cell none → k2.data = .cell none → St 44 80 4 q1 o1 x ox → St 51 95 4 q2 o2 y oy → x ≠ 44 → x ≠ 51 → y ≠ 44 → y ≠ 51 → D ≠ 44 → D ≠ 51 → x ≠ L + 1 → x ≠ L + 1 + 1 → y ≠ L + 1 → y ≠ L + 1 + 1 → D ≠ L + 1 → D ≠ L + 1 + 1 →
    (@LT.lt Nat _ 51 L ∧ @LT.lt Nat _ 44 L) →
    Below callerA g [] g → (K w.params).In g → Top p loose mean mg mb g →
    wpAny (model pgm w) (callerA.deeper (envOfC (Str.ofString "law") scope L f cd)) (execs ((body.drop 6).take 1) (envOfC (Str.ofString "law") scope L f cd)) (fun fl s' => fl = .next ∧ LowAt g L D (listOf #[.int d0 t0, .int d1 t1, .int d2 t2, .int d3 t3, .int d4 t4, .int d5 t5, .int d6 t6] n) vv vt o1 x ox o2 y oy s s') E s
noncomputable def P3b (body : List Stmt) (scope : Scope) : Prop :=
  ∀ (w : World) (p : Program) (loose : List Str) (mean : ExcName → Option Value) (mg mb : Str → Option Value) (g : Heap) (L f : Addr) (cd : Value) (k1 k2 : Obj) (s : Shared) (E : Value → Shared → Prop) (D : Addr) (O : Obj) (lo hi : Int) (tlo thi : Tok) (vv : Nat) (vt : Tok) (o1 : Obj) (x : Addr) (ox : Obj) (o2 : Obj) (y : Addr) (oy : Obj) (m : Str → Option Value),
    Fr g L s.heap (fun y => if y = Str.ofString "draws" then some (.ref D) else if y = Str.ofString "veil" then some (.str ⟨#[vv]⟩ vt) else m y) →
    News g L s.heap [(D, O), (44, o1), (x, ox), (51, o2), (y, oy), (L + 1 + 1, k2), (L + 1, k1)] →
    (0 ≤ lo ∧ lo < hi ∧ hi < 26) → k1.data = .cell (some (.int lo tlo)) → k2.data = .cell (some (.int hi thi)) → St 44 80 4 q1 o1 x ox → St 51 95 4 q2 o2 y oy → x ≠ 44 → x ≠ 51 → y ≠ 44 → y ≠ 51 → D ≠ 44 → D ≠ 51 → x ≠ L + 1 → x ≠ L + 1 + 1 → y ≠ L + 1 → y ≠ L + 1 + 1 → D ≠ L + 1 → D ≠ L + 1 + 1 →
    (@LT.lt Nat _ 51 L ∧ @LT.lt Nat _ 44 L) →
    Below callerA g [] g → (K w.params).In g → Top p loose mean mg mb g →
    wpAny (model pgm w) (callerA.deeper (envOfC (Str.ofString "law") scope L f cd)) (execs ((body.drop 7).take 1) (envOfC (Str.ofString "law") scope L f cd)) (fun fl s' => fl = .next ∧ ThirdAt g L D O vv vt lo hi o1 x ox o2 y oy k1 k2 s s') E s
set_option maxHeartbeats 4000000 in
theorem law_p3a : P3a lawBody lawScope := by
  refine law_lit (P := P3a) (by exact rfl) ?_
  intro w p loose mean mg mb g L f cd k1 k2 s E D d0 d1 d2 d3 d4 d5 d6 t0 t1 t2 t3 t4 t5 t6 n vv vt o1 x ox o2 y oy m F N c1 c2 S1 S2 nx1 nx2 ny1 ny2 nD1 nD2 nx3 nx4 ny3 ny4 nD3 nD4 hL B X T
  simp only [List.take, List.drop]
  repeat' ((first | (k_unfold; (try dsimp only)) | (k_end; kc_close) | walk1 | (dsimp only; walk1) | (leave1; walk_say "STEP leave1"; (try dsimp only)) | fail "no step") <;> (repeat' (first
    | (refine Stk.mk (k := 1) ?_; with_reducible ((k_here; k_dflt (first | ((with_reducible show wpAny _ _ (call (Value.ref 166) _) _ _ _); (refine' use_any_hand3 (c_hand3 _ _ _ _ _ _ _ _ _) ?hs ?B ?F ?X ?N ?T ?hk ?hd ?hu ?_; (case N => k_asm); (case hs => exact subC (by k_mem) sub0); (case B => k_asm); (case F => k_asm); (case X => k_asm); (case T => k_asm); (case hk => first | exact rfl | assumption); (case hd => first | ktr_room | omega); (case hu => first | ktr_units | omega)); (intro D9 a9 b9 c9 ta9 tb9 tc9 n9 h9 tk9 l1 l2 l3 k1 k2 k3 F9 N9 hf9); (obtain ⟨hh9, hk9, hu9, hv9, H9⟩ := hid_ex l1 l2 l3 k1 k2 k3); (have H8 := H9); (obtain ⟨p9, q9, r9, hi9, hs9, hr9, hc9⟩ := H8); (obtain ⟨g1, g2, g3, g4, g5, g6⟩ := hid_rd H9)) | ((with_reducible show wpAny _ _ (call (Value.ref 166) _) _ _ _); (refine' use_any_hand2 (c_hand2 _ _ _ _ _ _ _) ?hs ?B ?F ?X ?N ?T ?hk ?hd ?hu ?_; (case N => k_asm); (case hs => exact subC (by k_mem) sub0); (case B => k_asm); (case F => k_asm); (case X => k_asm); (case T => k_asm); (case hk => first | exact rfl | assumption); (case hd => first | ktr_room | omega); (case hu => first | ktr_units | omega)); (intro D9 a9 b9 ta9 tb9 n9 h9 tk9 l1 l2 k1 F9 N9 hf9); (obtain ⟨p9, q9, hi9, hr1, hr2, hr3⟩ := ins2_ok l1 l2 k1)) | ((with_reducible show wpAny _ _ (call (Value.ref 173) _) _ _ _); (refine' use_any_typed (c_typedE _ _ _ _ _ _ _ _ _ _ _ ?l1 ?l2 ?l3 ?l4) ?hs ?B ?F ?X ?N ?T ?hk ?hd ?hu ?_; (case N => k_asm); (case hs => exact subC (by k_mem) sub0); (case B => k_asm); (case F => k_asm); (case X => k_asm); (case T => k_asm); (case hk => first | exact rfl | assumption); (case hd => first | ktr_room | omega); (case hu => first | ktr_units | omega); (case l1 => omega); (case l2 => omega); (case l3 => omega); (case l4 => omega)); (intro a9 b9 c9 t9 h9 tk9 l1 l2 l3 k1 k2 k3 F9 N9)) | ((with_reducible show wpAny _ _ (call (Value.ref 202) _) _ _ _); (refine' use_str (c_msgE _ _ _ _ _ _ _ _ _ ?l1 ?l2 ?l3) ?hs ?B ?F ?X ?N ?T ?hk ?hd ?hu ?_; (case l1 => omega); (case l2 => omega); (case l3 => omega); (case N => k_asm); (case hs => exact sub0); (case B => k_asm); (case F => k_asm); (case X => k_asm); (case T => k_asm); (case hk => first | exact rfl | assumption); (case hd => first | ktr_room | omega); (case hu => first | ktr_units | omega)); (intro t9 h9 tk9 F9 N9)) | ((with_reducible show wpAny _ _ (call (Value.ref 190) _) _ _ _); (refine' use_two_hs (c_wriE _ _ _ _ _ _ _ ?l1 ?l2 ?l3 _ _ _ ?k1 ?k2 ?k3 ?k4 _ _ _ _ ?H _ _ _ _ _ _ ?S ?S2 ?h1 ?h2 ?h3 ?h4) ?hs ?B ?F ?X ?N ?T ?hk ?hd ?hu ?U ?U2 ?_; (case S => with_reducible assumption); (case S2 => with_reducible assumption); (case N => k_asm); (case hs => exact subC (by k_mem) (subC (by k_mem) (subC (by k_mem) (subC (by k_mem) sub0)))); (case B => k_asm); (case F => k_asm); (case X => k_asm); (case T => k_asm); (case hk => first | exact rfl | assumption); (case hd => first | ktr_room | omega); (case hu => first | ktr_units | omega); (case l1 => with_reducible assumption); (case l2 => with_reducible assumption); (case l3 => with_reducible assumption); (case k1 => with_reducible assumption); (case k2 => with_reducible assumption); (case k3 => with_reducible assumption); (case k4 => with_reducible assumption); (case H => with_reducible assumption); (case h1 => exact ofNe (by k_ne)); (case h2 => exact ofNe (by k_ne)); (case h3 => exact ofNe (by k_ne)); (case h4 => exact ofNe (by k_ne)); (case U => k_updF); (case U2 => (intro o9'; (try dsimp only); k_updF))); (intro T9 t9 u9 x9 ox9 y9 oy9 h9 tk9 S8 S9 hC9 hD9 F9 N9 hf9 ho1 ho2 ho3 ho4 hv8 hv9); (try dsimp only [List.cons_append, List.nil_append] at N9)) | ((with_reducible show wpAny _ _ (call (Value.ref 195) _) _ _ _); (refine' use_two_int (c_rdE _ _ _ _ _ _ ?l1 ?l2 ?l3 ?l4 ?l5 _ _ _ _ _ _ ?S ?S2 ?h1 ?h2 ?h3 ?h4) ?hs ?B ?F ?X ?N ?T ?hk ?hd ?hu ?U ?U2 ?_; (case S => with_reducible assumption); (case S2 => with_reducible assumption); (case N => k_asm); (case hs => exact subC (by k_mem) (subC (by k_mem) (subC (by k_mem) (subC (by k_mem) sub0)))); (case B => k_asm); (case F => k_asm); (case X => k_asm); (case T => k_asm); (case hk => first | exact rfl | assumption); (case hd => first | ktr_room | omega); (case hu => first | ktr_units | omega); (case l1 => with_reducible assumption); (case l2 => omega); (case l3 => omega); (case l4 => omega); (case l5 => omega); (case h1 => exact ofNe (by k_ne)); (case h2 => exact ofNe (by k_ne)); (case h3 => exact ofNe (by k_ne)); (case h4 => exact ofNe (by k_ne)); (case U => k_updF); (case U2 => (intro o9'; (try dsimp only); k_updF))); (intro t9 x9 ox9 y9 oy9 h9 tk9 S8 S9 hC9 hD9 F9 N9 ho1 ho2 ho3 ho4 hv8 hv9); (try dsimp only [List.cons_append, List.nil_append] at N9))); (try dsimp only); (try k_fold))))
    | (refine Stk.mk (k := 25) ?_; with_reducible ((k_here; (with_reducible show wpAny _ _ (subscriptTail _ _ (Value.ref _) (Value.int _ _)) _ _ _); k_dflt (first | (refine' r_lij 0 ?e ?v ?j ?N ?m ?_ ?s; (case e => decide); (case j => decide); (case N => k_asm); (case m => k_mem); (case v => exact rfl); (case s => with_unfolding_all rfl)) | (refine' r_lij 1 ?e ?v ?j ?N ?m ?_ ?s; (case e => decide); (case j => decide); (case N => k_asm); (case m => k_mem); (case v => exact rfl); (case s => with_unfolding_all rfl)) | (refine' r_lij 2 ?e ?v ?j ?N ?m ?_ ?s; (case e => decide); (case j => decide); (case N => k_asm); (case m => k_mem); (case v => exact rfl); (case s => with_unfolding_all rfl)) | (refine' r_lij 3 ?e ?v ?j ?N ?m ?_ ?s; (case e => decide); (case j => decide); (case N => k_asm); (case m => k_mem); (case v => exact rfl); (case s => with_unfolding_all rfl)) | (refine' r_lij 4 ?e ?v ?j ?N ?m ?_ ?s; (case e => decide); (case j => decide); (case N => k_asm); (case m => k_mem); (case v => exact rfl); (case s => with_unfolding_all rfl)) | (refine' r_lij 5 ?e ?v ?j ?N ?m ?_ ?s; (case e => decide); (case j => decide); (case N => k_asm); (case m => k_mem); (case v => exact rfl); (case s => with_unfolding_all rfl)) | (refine' r_lij 6 ?e ?v ?j ?N ?m ?_ ?s; (case e => decide); (case j => decide); (case N => k_asm); (case m => k_mem); (case v => exact rfl); (case s => with_unfolding_all rfl))))))
    | (refine Stk.mk (k := 29) ?_; with_reducible ((k_here; k_dflt (first | (refine' r_sort3 ?F ?N ?m ?e ?_; (case F => k_asm); (case N => k_asm); (case m => k_mem); (case e => with_reducible assumption); (intro D8 tp8 tq8 tr8 c8 h8 F8 N8 l8; (try k_lt l8))) | (refine' r_sort2 ?F ?N ?m ?e ?_; (case F => k_asm); (case N => k_asm); (case m => k_mem); (case e => with_reducible assumption); (intro D8 tp8 tq8 c8 h8 F8 N8 l8; (try k_lt l8)))))))
    | (refine Stk.mk (k := 14) ?_; first | with_reducible ((k_here; (with_reducible show wpAny _ _ (subscriptTail _ _ (Value.ref _) (Value.int _ _)) _ _ _); k_dflt (refine' r_pick3 ?N ?m ?e ?c ?_ ?s; (case N => k_asm); (case m => k_mem); (case c => with_reducible assumption); (case e => first | (simp only [Int.fmod_eq_emod_of_nonneg _ (show (0 : Int) ≤ 3 by decide)]; omega) | omega); (case s => with_unfolding_all rfl)); (intro t8))) | with_reducible ((k_here; k_dflt (refine' r_veil ?e1 ?e2 ?_ ?s ?t; (case e1 => first | exact Int.fmod_nonneg_of_pos _ (by decide) | omega); (case e2 => first | exact Int.fmod_lt_of_pos _ (by decide) | omega); (case s => with_unfolding_all rfl); (case t => (intro _; with_unfolding_all rfl))); (intro v9 hv9)))))))
  refine' ⟨_, _, _, _, _, _, _, _, _, rfl, ?oF, ?oD, ?oV, ⟨?oB, ?oB2, ?oB3⟩, ?o1, ?o2, ?oN⟩
  case oF => k_asm
  case oN => exact news_sub (by k_asm) (subC (by k_mem) (subC (by k_mem) (subC (by k_mem) (subC (by k_mem) (subC (by k_mem) (subC (by k_mem) (subC (by k_mem) sub0)))))))
  case o1 => k_asm
  case o2 => k_asm
  case oD => with_unfolding_all rfl
  case oV => with_unfolding_all rfl
  case oB => assumption
  case oB2 => assumption
  case oB3 => assumption
noncomputable def thG (l h : Int) (ys : List Int) (x : Int) : List Int := if x ≠ l ∧ x ≠ h ∧ (ins3 l h x).getD ((l + h + x) % 3).toNat 0 = x then ys ++ [x] else ys
theorem thG_grows (l h : Int) : KPfGrows (thG l h) := fun ys x => by
  unfold thG
  split <;> simp
theorem hid_pick {x y z h k u v : Int} (H : Hid x y z h k u v) : (ins3 x y z).getD ((x + y + z) % 3).toNat 0 = h := by
  obtain ⟨p, q, r, e, es, _, hc⟩ := H
  rw [e, es]
  rcases hc with ⟨i, rfl, _⟩ | ⟨i, rfl, _⟩ | ⟨i, rfl, _⟩ <;> rw [i] <;> rfl
theorem thG_no {l h : Int} {ys : List Int} {x : Int} (e : ¬(x ≠ l ∧ x ≠ h ∧ (ins3 l h x).getD ((l + h + x) % 3).toNat 0 = x)) : thG l h ys x = ys := if_neg e
theorem thG_yes {l h : Int} {ys : List Int} {x : Int} (e1 : x ≠ l) (e2 : x ≠ h) (e3 : (ins3 l h x).getD ((l + h + x) % 3).toNat 0 = x) : thG l h ys x = ys ++ [x] := if_pos ⟨e1, e2, e3⟩
noncomputable def th8 (l h : Int) : List Int := [rd 0 l h, rd 1 l h, rd 2 l h, rd 3 l h, rd 4 l h, rd 5 l h, rd 6 l h, rd 7 l h]
theorem th_all : ∀ l < 26, ∀ h < 26, l < h → (rangeKs 0 26).foldl (thG ((l : Nat) : Int) ((h : Nat) : Int)) [] = th8 ((l : Nat) : Int) ((h : Nat) : Int) := by decide +kernel
theorem th_ok {l h : Int} (h0 : 0 ≤ l) (h1 : l < h) (h2 : h < 26) : (rangeKs 0 26).foldl (thG l h) [] = th8 l h := by
  have := th_all l.toNat (by omega) h.toNat (by omega) (by omega)
  rw [Int.toNat_of_nonneg h0, Int.toNat_of_nonneg (by omega)] at this
  exact this
set_option maxHeartbeats 4000000 in
theorem law_p3b : P3b lawBody lawScope := by
  refine law_lit (P := P3b) (by exact rfl) ?_
  intro w p loose mean mg mb g L f cd k1 k2 s E D O lo hi tlo thi vv vt o1 x ox o2 y oy m F N hlh c1 c2 S1 S2 nx1 nx2 ny1 ny2 nD1 nD2 nx3 nx4 ny3 ny4 nD3 nD4 hL B X T
  simp only [List.take, List.drop]
  iterate 1 (try ((first | (k_unfold; (try dsimp only)) | (k_end; wrow_close) | walk1 | (dsimp only; walk1) | (leave1; walk_say "STEP leave1"; (try dsimp only)) | fail "no step") <;> (repeat' (first
    | (refine Stk.mk (k := 1) ?_; with_reducible ((k_here; k_dflt (first | ((with_reducible show wpAny _ _ (call (Value.ref 166) _) _ _ _); (refine' use_any_hand3 (c_hand3 _ _ _ _ _ _ _ _ _) ?hs ?B ?F ?X ?N ?T ?hk ?hd ?hu ?_; (case N => k_asm); (case hs => exact subC (by k_mem) sub0); (case B => k_asm); (case F => k_asm); (case X => k_asm); (case T => k_asm); (case hk => first | exact rfl | assumption); (case hd => first | ktr_room | omega); (case hu => first | ktr_units | omega)); (intro D9 a9 b9 c9 ta9 tb9 tc9 n9 h9 tk9 l1 l2 l3 k1 k2 k3 F9 N9 hf9); (obtain ⟨hh9, hk9, hu9, hv9, H9⟩ := hid_ex l1 l2 l3 k1 k2 k3); (have H8 := H9); (obtain ⟨p9, q9, r9, hi9, hs9, hr9, hc9⟩ := H8); (obtain ⟨g1, g2, g3, g4, g5, g6⟩ := hid_rd H9)) | ((with_reducible show wpAny _ _ (call (Value.ref 166) _) _ _ _); (refine' use_any_hand2 (c_hand2 _ _ _ _ _ _ _) ?hs ?B ?F ?X ?N ?T ?hk ?hd ?hu ?_; (case N => k_asm); (case hs => exact subC (by k_mem) sub0); (case B => k_asm); (case F => k_asm); (case X => k_asm); (case T => k_asm); (case hk => first | exact rfl | assumption); (case hd => first | ktr_room | omega); (case hu => first | ktr_units | omega)); (intro D9 a9 b9 ta9 tb9 n9 h9 tk9 l1 l2 k1 F9 N9 hf9); (obtain ⟨p9, q9, hi9, hr1, hr2, hr3⟩ := ins2_ok l1 l2 k1)) | ((with_reducible show wpAny _ _ (call (Value.ref 173) _) _ _ _); (refine' use_any_typed (c_typedE _ _ _ _ _ _ _ _ _ _ _ ?l1 ?l2 ?l3 ?l4) ?hs ?B ?F ?X ?N ?T ?hk ?hd ?hu ?_; (case N => k_asm); (case hs => exact subC (by k_mem) sub0); (case B => k_asm); (case F => k_asm); (case X => k_asm); (case T => k_asm); (case hk => first | exact rfl | assumption); (case hd => first | ktr_room | omega); (case hu => first | ktr_units | omega); (case l1 => omega); (case l2 => omega); (case l3 => omega); (case l4 => omega)); (intro a9 b9 c9 t9 h9 tk9 l1 l2 l3 k1 k2 k3 F9 N9)) | ((with_reducible show wpAny _ _ (call (Value.ref 202) _) _ _ _); (refine' use_str (c_msgE _ _ _ _ _ _ _ _ _ ?l1 ?l2 ?l3) ?hs ?B ?F ?X ?N ?T ?hk ?hd ?hu ?_; (case l1 => omega); (case l2 => omega); (case l3 => omega); (case N => k_asm); (case hs => exact sub0); (case B => k_asm); (case F => k_asm); (case X => k_asm); (case T => k_asm); (case hk => first | exact rfl | assumption); (case hd => first | ktr_room | omega); (case hu => first | ktr_units | omega)); (intro t9 h9 tk9 F9 N9)) | ((with_reducible show wpAny _ _ (call (Value.ref 190) _) _ _ _); (refine' use_two_hs (c_wriE _ _ _ _ _ _ _ ?l1 ?l2 ?l3 _ _ _ ?k1 ?k2 ?k3 ?k4 _ _ _ _ ?H _ _ _ _ _ _ ?S ?S2 ?h1 ?h2 ?h3 ?h4) ?hs ?B ?F ?X ?N ?T ?hk ?hd ?hu ?U ?U2 ?_; (case S => with_reducible assumption); (case S2 => with_reducible assumption); (case N => k_asm); (case hs => exact subC (by k_mem) (subC (by k_mem) (subC (by k_mem) (subC (by k_mem) sub0)))); (case B => k_asm); (case F => k_asm); (case X => k_asm); (case T => k_asm); (case hk => first | exact rfl | assumption); (case hd => first | ktr_room | omega); (case hu => first | ktr_units | omega); (case l1 => with_reducible assumption); (case l2 => with_reducible assumption); (case l3 => with_reducible assumption); (case k1 => with_reducible assumption); (case k2 => with_reducible assumption); (case k3 => with_reducible assumption); (case k4 => with_reducible assumption); (case H => with_reducible assumption); (case h1 => exact ofNe (by k_ne)); (case h2 => exact ofNe (by k_ne)); (case h3 => exact ofNe (by k_ne)); (case h4 => exact ofNe (by k_ne)); (case U => k_updF); (case U2 => (intro o9'; (try dsimp only); k_updF))); (intro T9 t9 u9 x9 ox9 y9 oy9 h9 tk9 S8 S9 hC9 hD9 F9 N9 hf9 ho1 ho2 ho3 ho4 hv8 hv9); (try dsimp only [List.cons_append, List.nil_append] at N9)) | ((with_reducible show wpAny _ _ (call (Value.ref 195) _) _ _ _); (refine' use_two_int (c_rdE _ _ _ _ _ _ ?l1 ?l2 ?l3 ?l4 ?l5 _ _ _ _ _ _ ?S ?S2 ?h1 ?h2 ?h3 ?h4) ?hs ?B ?F ?X ?N ?T ?hk ?hd ?hu ?U ?U2 ?_; (case S => with_reducible assumption); (case S2 => with_reducible assumption); (case N => k_asm); (case hs => exact subC (by k_mem) (subC (by k_mem) (subC (by k_mem) (subC (by k_mem) sub0)))); (case B => k_asm); (case F => k_asm); (case X => k_asm); (case T => k_asm); (case hk => first | exact rfl | assumption); (case hd => first | ktr_room | omega); (case hu => first | ktr_units | omega); (case l1 => with_reducible assumption); (case l2 => omega); (case l3 => omega); (case l4 => omega); (case l5 => omega); (case h1 => exact ofNe (by k_ne)); (case h2 => exact ofNe (by k_ne)); (case h3 => exact ofNe (by k_ne)); (case h4 => exact ofNe (by k_ne)); (case U => k_updF); (case U2 => (intro o9'; (try dsimp only); k_updF))); (intro t9 x9 ox9 y9 oy9 h9 tk9 S8 S9 hC9 hD9 F9 N9 ho1 ho2 ho3 ho4 hv8 hv9); (try dsimp only [List.cons_append, List.nil_append] at N9))); (try dsimp only); (try k_fold))))
    | (refine Stk.mk (k := 25) ?_; with_reducible ((k_here; (with_reducible show wpAny _ _ (subscriptTail _ _ (Value.ref _) (Value.int _ _)) _ _ _); k_dflt (first | (refine' r_lij 0 ?e ?v ?j ?N ?m ?_ ?s; (case e => decide); (case j => decide); (case N => k_asm); (case m => k_mem); (case v => exact rfl); (case s => with_unfolding_all rfl)) | (refine' r_lij 1 ?e ?v ?j ?N ?m ?_ ?s; (case e => decide); (case j => decide); (case N => k_asm); (case m => k_mem); (case v => exact rfl); (case s => with_unfolding_all rfl)) | (refine' r_lij 2 ?e ?v ?j ?N ?m ?_ ?s; (case e => decide); (case j => decide); (case N => k_asm); (case m => k_mem); (case v => exact rfl); (case s => with_unfolding_all rfl)) | (refine' r_lij 3 ?e ?v ?j ?N ?m ?_ ?s; (case e => decide); (case j => decide); (case N => k_asm); (case m => k_mem); (case v => exact rfl); (case s => with_unfolding_all rfl)) | (refine' r_lij 4 ?e ?v ?j ?N ?m ?_ ?s; (case e => decide); (case j => decide); (case N => k_asm); (case m => k_mem); (case v => exact rfl); (case s => with_unfolding_all rfl)) | (refine' r_lij 5 ?e ?v ?j ?N ?m ?_ ?s; (case e => decide); (case j => decide); (case N => k_asm); (case m => k_mem); (case v => exact rfl); (case s => with_unfolding_all rfl)) | (refine' r_lij 6 ?e ?v ?j ?N ?m ?_ ?s; (case e => decide); (case j => decide); (case N => k_asm); (case m => k_mem); (case v => exact rfl); (case s => with_unfolding_all rfl))))))
    | (refine Stk.mk (k := 29) ?_; with_reducible ((k_here; k_dflt (first | (refine' r_sort3 ?F ?N ?m ?e ?_; (case F => k_asm); (case N => k_asm); (case m => k_mem); (case e => with_reducible assumption); (intro D8 tp8 tq8 tr8 c8 h8 F8 N8 l8; (try k_lt l8))) | (refine' r_sort2 ?F ?N ?m ?e ?_; (case F => k_asm); (case N => k_asm); (case m => k_mem); (case e => with_reducible assumption); (intro D8 tp8 tq8 c8 h8 F8 N8 l8; (try k_lt l8)))))))
    | (refine Stk.mk (k := 14) ?_; first | with_reducible ((k_here; (with_reducible show wpAny _ _ (subscriptTail _ _ (Value.ref _) (Value.int _ _)) _ _ _); k_dflt (refine' r_pick3 ?N ?m ?e ?c ?_ ?s; (case N => k_asm); (case m => k_mem); (case c => with_reducible assumption); (case e => first | (simp only [Int.fmod_eq_emod_of_nonneg _ (show (0 : Int) ≤ 3 by decide)]; omega) | omega); (case s => with_unfolding_all rfl)); (intro t8))) | with_reducible ((k_here; k_dflt (refine' r_veil ?e1 ?e2 ?_ ?s ?t; (case e1 => first | exact Int.fmod_nonneg_of_pos _ (by decide) | omega); (case e2 => first | exact Int.fmod_lt_of_pos _ (by decide) | omega); (case s => with_unfolding_all rfl); (case t => (intro _; with_unfolding_all rfl))); (intro v9 hv9))))))))
  k_here
  k_dflt (refine LCt.Assign_ListComp_T (F₀ := by k_asm) (by rfl) (by with_unfolding_all rfl) (by with_unfolding_all rfl) (by decide) (by rfl) (by decide) (by rfl) (by rfl) (by rfl) ?_)
  iterate 7 (try ((first | (k_unfold; (try dsimp only)) | (k_end; wrow_close) | walk1 | (dsimp only; walk1) | (leave1; walk_say "STEP leave1"; (try dsimp only)) | fail "no step") <;> (repeat' (first
    | (refine Stk.mk (k := 1) ?_; with_reducible ((k_here; k_dflt (first | ((with_reducible show wpAny _ _ (call (Value.ref 166) _) _ _ _); (refine' use_any_hand3 (c_hand3 _ _ _ _ _ _ _ _ _) ?hs ?B ?F ?X ?N ?T ?hk ?hd ?hu ?_; (case N => k_asm); (case hs => exact subC (by k_mem) sub0); (case B => k_asm); (case F => k_asm); (case X => k_asm); (case T => k_asm); (case hk => first | exact rfl | assumption); (case hd => first | ktr_room | omega); (case hu => first | ktr_units | omega)); (intro D9 a9 b9 c9 ta9 tb9 tc9 n9 h9 tk9 l1 l2 l3 k1 k2 k3 F9 N9 hf9); (obtain ⟨hh9, hk9, hu9, hv9, H9⟩ := hid_ex l1 l2 l3 k1 k2 k3); (have H8 := H9); (obtain ⟨p9, q9, r9, hi9, hs9, hr9, hc9⟩ := H8); (obtain ⟨g1, g2, g3, g4, g5, g6⟩ := hid_rd H9)) | ((with_reducible show wpAny _ _ (call (Value.ref 166) _) _ _ _); (refine' use_any_hand2 (c_hand2 _ _ _ _ _ _ _) ?hs ?B ?F ?X ?N ?T ?hk ?hd ?hu ?_; (case N => k_asm); (case hs => exact subC (by k_mem) sub0); (case B => k_asm); (case F => k_asm); (case X => k_asm); (case T => k_asm); (case hk => first | exact rfl | assumption); (case hd => first | ktr_room | omega); (case hu => first | ktr_units | omega)); (intro D9 a9 b9 ta9 tb9 n9 h9 tk9 l1 l2 k1 F9 N9 hf9); (obtain ⟨p9, q9, hi9, hr1, hr2, hr3⟩ := ins2_ok l1 l2 k1)) | ((with_reducible show wpAny _ _ (call (Value.ref 173) _) _ _ _); (refine' use_any_typed (c_typedE _ _ _ _ _ _ _ _ _ _ _ ?l1 ?l2 ?l3 ?l4) ?hs ?B ?F ?X ?N ?T ?hk ?hd ?hu ?_; (case N => k_asm); (case hs => exact subC (by k_mem) sub0); (case B => k_asm); (case F => k_asm); (case X => k_asm); (case T => k_asm); (case hk => first | exact rfl | assumption); (case hd => first | ktr_room | omega); (case hu => first | ktr_units | omega); (case l1 => omega); (case l2 => omega); (case l3 => omega); (case l4 => omega)); (intro a9 b9 c9 t9 h9 tk9 l1 l2 l3 k1 k2 k3 F9 N9)) | ((with_reducible show wpAny _ _ (call (Value.ref 202) _) _ _ _); (refine' use_str (c_msgE _ _ _ _ _ _ _ _ _ ?l1 ?l2 ?l3) ?hs ?B ?F ?X ?N ?T ?hk ?hd ?hu ?_; (case l1 => omega); (case l2 => omega); (case l3 => omega); (case N => k_asm); (case hs => exact sub0); (case B => k_asm); (case F => k_asm); (case X => k_asm); (case T => k_asm); (case hk => first | exact rfl | assumption); (case hd => first | ktr_room | omega); (case hu => first | ktr_units | omega)); (intro t9 h9 tk9 F9 N9)) | ((with_reducible show wpAny _ _ (call (Value.ref 190) _) _ _ _); (refine' use_two_hs (c_wriE _ _ _ _ _ _ _ ?l1 ?l2 ?l3 _ _ _ ?k1 ?k2 ?k3 ?k4 _ _ _ _ ?H _ _ _ _ _ _ ?S ?S2 ?h1 ?h2 ?h3 ?h4) ?hs ?B ?F ?X ?N ?T ?hk ?hd ?hu ?U ?U2 ?_; (case S => with_reducible assumption); (case S2 => with_reducible assumption); (case N => k_asm); (case hs => exact subC (by k_mem) (subC (by k_mem) (subC (by k_mem) (subC (by k_mem) sub0)))); (case B => k_asm); (case F => k_asm); (case X => k_asm); (case T => k_asm); (case hk => first | exact rfl | assumption); (case hd => first | ktr_room | omega); (case hu => first | ktr_units | omega); (case l1 => with_reducible assumption); (case l2 => with_reducible assumption); (case l3 => with_reducible assumption); (case k1 => with_reducible assumption); (case k2 => with_reducible assumption); (case k3 => with_reducible assumption); (case k4 => with_reducible assumption); (case H => with_reducible assumption); (case h1 => exact ofNe (by k_ne)); (case h2 => exact ofNe (by k_ne)); (case h3 => exact ofNe (by k_ne)); (case h4 => exact ofNe (by k_ne)); (case U => k_updF); (case U2 => (intro o9'; (try dsimp only); k_updF))); (intro T9 t9 u9 x9 ox9 y9 oy9 h9 tk9 S8 S9 hC9 hD9 F9 N9 hf9 ho1 ho2 ho3 ho4 hv8 hv9); (try dsimp only [List.cons_append, List.nil_append] at N9)) | ((with_reducible show wpAny _ _ (call (Value.ref 195) _) _ _ _); (refine' use_two_int (c_rdE _ _ _ _ _ _ ?l1 ?l2 ?l3 ?l4 ?l5 _ _ _ _ _ _ ?S ?S2 ?h1 ?h2 ?h3 ?h4) ?hs ?B ?F ?X ?N ?T ?hk ?hd ?hu ?U ?U2 ?_; (case S => with_reducible assumption); (case S2 => with_reducible assumption); (case N => k_asm); (case hs => exact subC (by k_mem) (subC (by k_mem) (subC (by k_mem) (subC (by k_mem) sub0)))); (case B => k_asm); (case F => k_asm); (case X => k_asm); (case T => k_asm); (case hk => first | exact rfl | assumption); (case hd => first | ktr_room | omega); (case hu => first | ktr_units | omega); (case l1 => with_reducible assumption); (case l2 => omega); (case l3 => omega); (case l4 => omega); (case l5 => omega); (case h1 => exact ofNe (by k_ne)); (case h2 => exact ofNe (by k_ne)); (case h3 => exact ofNe (by k_ne)); (case h4 => exact ofNe (by k_ne)); (case U => k_updF); (case U2 => (intro o9'; (try dsimp only); k_updF))); (intro t9 x9 ox9 y9 oy9 h9 tk9 S8 S9 hC9 hD9 F9 N9 ho1 ho2 ho3 ho4 hv8 hv9); (try dsimp only [List.cons_append, List.nil_append] at N9))); (try dsimp only); (try k_fold))))
    | (refine Stk.mk (k := 25) ?_; with_reducible ((k_here; (with_reducible show wpAny _ _ (subscriptTail _ _ (Value.ref _) (Value.int _ _)) _ _ _); k_dflt (first | (refine' r_lij 0 ?e ?v ?j ?N ?m ?_ ?s; (case e => decide); (case j => decide); (case N => k_asm); (case m => k_mem); (case v => exact rfl); (case s => with_unfolding_all rfl)) | (refine' r_lij 1 ?e ?v ?j ?N ?m ?_ ?s; (case e => decide); (case j => decide); (case N => k_asm); (case m => k_mem); (case v => exact rfl); (case s => with_unfolding_all rfl)) | (refine' r_lij 2 ?e ?v ?j ?N ?m ?_ ?s; (case e => decide); (case j => decide); (case N => k_asm); (case m => k_mem); (case v => exact rfl); (case s => with_unfolding_all rfl)) | (refine' r_lij 3 ?e ?v ?j ?N ?m ?_ ?s; (case e => decide); (case j => decide); (case N => k_asm); (case m => k_mem); (case v => exact rfl); (case s => with_unfolding_all rfl)) | (refine' r_lij 4 ?e ?v ?j ?N ?m ?_ ?s; (case e => decide); (case j => decide); (case N => k_asm); (case m => k_mem); (case v => exact rfl); (case s => with_unfolding_all rfl)) | (refine' r_lij 5 ?e ?v ?j ?N ?m ?_ ?s; (case e => decide); (case j => decide); (case N => k_asm); (case m => k_mem); (case v => exact rfl); (case s => with_unfolding_all rfl)) | (refine' r_lij 6 ?e ?v ?j ?N ?m ?_ ?s; (case e => decide); (case j => decide); (case N => k_asm); (case m => k_mem); (case v => exact rfl); (case s => with_unfolding_all rfl))))))
    | (refine Stk.mk (k := 29) ?_; with_reducible ((k_here; k_dflt (first | (refine' r_sort3 ?F ?N ?m ?e ?_; (case F => k_asm); (case N => k_asm); (case m => k_mem); (case e => with_reducible assumption); (intro D8 tp8 tq8 tr8 c8 h8 F8 N8 l8; (try k_lt l8))) | (refine' r_sort2 ?F ?N ?m ?e ?_; (case F => k_asm); (case N => k_asm); (case m => k_mem); (case e => with_reducible assumption); (intro D8 tp8 tq8 c8 h8 F8 N8 l8; (try k_lt l8)))))))
    | (refine Stk.mk (k := 14) ?_; first | with_reducible ((k_here; (with_reducible show wpAny _ _ (subscriptTail _ _ (Value.ref _) (Value.int _ _)) _ _ _); k_dflt (refine' r_pick3 ?N ?m ?e ?c ?_ ?s; (case N => k_asm); (case m => k_mem); (case c => with_reducible assumption); (case e => first | (simp only [Int.fmod_eq_emod_of_nonneg _ (show (0 : Int) ≤ 3 by decide)]; omega) | omega); (case s => with_unfolding_all rfl)); (intro t8))) | with_reducible ((k_here; k_dflt (refine' r_veil ?e1 ?e2 ?_ ?s ?t; (case e1 => first | exact Int.fmod_nonneg_of_pos _ (by decide) | omega); (case e2 => first | exact Int.fmod_lt_of_pos _ (by decide) | omega); (case s => with_unfolding_all rfl); (case t => (intro _; with_unfolding_all rfl))); (intro v9 hv9))))))))
  k_here
  k_dflt (refine LCt.CompSrcT.range (n := 26) (by rfl) (by k_asm) (by k_asm) (by assumption) (by first | decide | rfl) (by first | rfl | decide) (by exact Nat.le_of_ble_eq_true rfl) ?_)
  intro g'
  refine' kci_range (thG lo hi) (fun k' t' I' oI' C' oC' D' m' ys' l' h' tk' E' hlo' hhi' hI' hC' hx' F' N' off' ne' mk' => ?cTurn) ?cFin ?cGrow
  case cGrow => exact thG_grows _ _
  case cFin =>
    show ∀ ys, IntsAre ys ((rangeKs 0 26).foldl (thG lo hi) []) → _
    intro ys hys _
    rw [th_ok hlh.1 hlh.2.1 hlh.2.2] at hys
    unfold LCg.FinA
    intro D8 h8 tk8 F8 N8 o8
    replace o8 := off1_split o8
    repeat' ((first | (k_unfold; (try dsimp only)) | (k_end; kc_close) | walk1 | (dsimp only; walk1) | (leave1; walk_say "STEP leave1"; (try dsimp only)) | fail "no step") <;> (repeat' (first
    | (refine Stk.mk (k := 1) ?_; with_reducible ((k_here; k_dflt (first | ((with_reducible show wpAny _ _ (call (Value.ref 166) _) _ _ _); (refine' use_any_hand3 (c_hand3 _ _ _ _ _ _ _ _ _) ?hs ?B ?F ?X ?N ?T ?hk ?hd ?hu ?_; (case N => k_asm); (case hs => exact subC (by k_mem) sub0); (case B => k_asm); (case F => k_asm); (case X => k_asm); (case T => k_asm); (case hk => first | exact rfl | assumption); (case hd => first | ktr_room | omega); (case hu => first | ktr_units | omega)); (intro D9 a9 b9 c9 ta9 tb9 tc9 n9 h9 tk9 l1 l2 l3 k1 k2 k3 F9 N9 hf9); (obtain ⟨hh9, hk9, hu9, hv9, H9⟩ := hid_ex l1 l2 l3 k1 k2 k3); (have H8 := H9); (obtain ⟨p9, q9, r9, hi9, hs9, hr9, hc9⟩ := H8); (obtain ⟨g1, g2, g3, g4, g5, g6⟩ := hid_rd H9)) | ((with_reducible show wpAny _ _ (call (Value.ref 166) _) _ _ _); (refine' use_any_hand2 (c_hand2 _ _ _ _ _ _ _) ?hs ?B ?F ?X ?N ?T ?hk ?hd ?hu ?_; (case N => k_asm); (case hs => exact subC (by k_mem) sub0); (case B => k_asm); (case F => k_asm); (case X => k_asm); (case T => k_asm); (case hk => first | exact rfl | assumption); (case hd => first | ktr_room | omega); (case hu => first | ktr_units | omega)); (intro D9 a9 b9 ta9 tb9 n9 h9 tk9 l1 l2 k1 F9 N9 hf9); (obtain ⟨p9, q9, hi9, hr1, hr2, hr3⟩ := ins2_ok l1 l2 k1)) | ((with_reducible show wpAny _ _ (call (Value.ref 173) _) _ _ _); (refine' use_any_typed (c_typedE _ _ _ _ _ _ _ _ _ _ _ ?l1 ?l2 ?l3 ?l4) ?hs ?B ?F ?X ?N ?T ?hk ?hd ?hu ?_; (case N => k_asm); (case hs => exact subC (by k_mem) sub0); (case B => k_asm); (case F => k_asm); (case X => k_asm); (case T => k_asm); (case hk => first | exact rfl | assumption); (case hd => first | ktr_room | omega); (case hu => first | ktr_units | omega); (case l1 => omega); (case l2 => omega); (case l3 => omega); (case l4 => omega)); (intro a9 b9 c9 t9 h9 tk9 l1 l2 l3 k1 k2 k3 F9 N9)) | ((with_reducible show wpAny _ _ (call (Value.ref 202) _) _ _ _); (refine' use_str (c_msgE _ _ _ _ _ _ _ _ _ ?l1 ?l2 ?l3) ?hs ?B ?F ?X ?N ?T ?hk ?hd ?hu ?_; (case l1 => omega); (case l2 => omega); (case l3 => omega); (case N => k_asm); (case hs => exact sub0); (case B => k_asm); (case F => k_asm); (case X => k_asm); (case T => k_asm); (case hk => first | exact rfl | assumption); (case hd => first | ktr_room | omega); (case hu => first | ktr_units | omega)); (intro t9 h9 tk9 F9 N9)) | ((with_reducible show wpAny _ _ (call (Value.ref 190) _) _ _ _); (refine' use_two_hs (c_wriE _ _ _ _ _ _ _ ?l1 ?l2 ?l3 _ _ _ ?k1 ?k2 ?k3 ?k4 _ _ _ _ ?H _ _ _ _ _ _ ?S ?S2 ?h1 ?h2 ?h3 ?h4) ?hs ?B ?F ?X ?N ?T ?hk ?hd ?hu ?U ?U2 ?_; (case S => with_reducible assumption); (case S2 => with_reducible assumption); (case N => k_asm); (case hs => exact subC (by k_mem) (subC (by k_mem) (subC (by k_mem) (subC (by k_mem) sub0)))); (case B => k_asm); (case F => k_asm); (case X => k_asm); (case T => k_asm); (case hk => first | exact rfl | assumption); (case hd => first | ktr_room | omega); (case hu => first | ktr_units | omega); (case l1 => with_reducible assumption); (case l2 => with_reducible assumption); (case l3 => with_reducible assumption); (case k1 => with_reducible assumption); (case k2 => with_reducible assumption); (case k3 => with_reducible assumption); (case k4 => with_reducible assumption); (case H => with_reducible assumption); (case h1 => exact ofNe (by k_ne)); (case h2 => exact ofNe (by k_ne)); (case h3 => exact ofNe (by k_ne)); (case h4 => exact ofNe (by k_ne)); (case U => k_updF); (case U2 => (intro o9'; (try dsimp only); k_updF))); (intro T9 t9 u9 x9 ox9 y9 oy9 h9 tk9 S8 S9 hC9 hD9 F9 N9 hf9 ho1 ho2 ho3 ho4 hv8 hv9); (try dsimp only [List.cons_append, List.nil_append] at N9)) | ((with_reducible show wpAny _ _ (call (Value.ref 195) _) _ _ _); (refine' use_two_int (c_rdE _ _ _ _ _ _ ?l1 ?l2 ?l3 ?l4 ?l5 _ _ _ _ _ _ ?S ?S2 ?h1 ?h2 ?h3 ?h4) ?hs ?B ?F ?X ?N ?T ?hk ?hd ?hu ?U ?U2 ?_; (case S => with_reducible assumption); (case S2 => with_reducible assumption); (case N => k_asm); (case hs => exact subC (by k_mem) (subC (by k_mem) (subC (by k_mem) (subC (by k_mem) sub0)))); (case B => k_asm); (case F => k_asm); (case X => k_asm); (case T => k_asm); (case hk => first | exact rfl | assumption); (case hd => first | ktr_room | omega); (case hu => first | ktr_units | omega); (case l1 => with_reducible assumption); (case l2 => omega); (case l3 => omega); (case l4 => omega); (case l5 => omega); (case h1 => exact ofNe (by k_ne)); (case h2 => exact ofNe (by k_ne)); (case h3 => exact ofNe (by k_ne)); (case h4 => exact ofNe (by k_ne)); (case U => k_updF); (case U2 => (intro o9'; (try dsimp only); k_updF))); (intro t9 x9 ox9 y9 oy9 h9 tk9 S8 S9 hC9 hD9 F9 N9 ho1 ho2 ho3 ho4 hv8 hv9); (try dsimp only [List.cons_append, List.nil_append] at N9))); (try dsimp only); (try k_fold))))
    | (refine Stk.mk (k := 25) ?_; with_reducible ((k_here; (with_reducible show wpAny _ _ (subscriptTail _ _ (Value.ref _) (Value.int _ _)) _ _ _); k_dflt (first | (refine' r_lij 0 ?e ?v ?j ?N ?m ?_ ?s; (case e => decide); (case j => decide); (case N => k_asm); (case m => k_mem); (case v => exact rfl); (case s => with_unfolding_all rfl)) | (refine' r_lij 1 ?e ?v ?j ?N ?m ?_ ?s; (case e => decide); (case j => decide); (case N => k_asm); (case m => k_mem); (case v => exact rfl); (case s => with_unfolding_all rfl)) | (refine' r_lij 2 ?e ?v ?j ?N ?m ?_ ?s; (case e => decide); (case j => decide); (case N => k_asm); (case m => k_mem); (case v => exact rfl); (case s => with_unfolding_all rfl)) | (refine' r_lij 3 ?e ?v ?j ?N ?m ?_ ?s; (case e => decide); (case j => decide); (case N => k_asm); (case m => k_mem); (case v => exact rfl); (case s => with_unfolding_all rfl)) | (refine' r_lij 4 ?e ?v ?j ?N ?m ?_ ?s; (case e => decide); (case j => decide); (case N => k_asm); (case m => k_mem); (case v => exact rfl); (case s => with_unfolding_all rfl)) | (refine' r_lij 5 ?e ?v ?j ?N ?m ?_ ?s; (case e => decide); (case j => decide); (case N => k_asm); (case m => k_mem); (case v => exact rfl); (case s => with_unfolding_all rfl)) | (refine' r_lij 6 ?e ?v ?j ?N ?m ?_ ?s; (case e => decide); (case j => decide); (case N => k_asm); (case m => k_mem); (case v => exact rfl); (case s => with_unfolding_all rfl))))))
    | (refine Stk.mk (k := 29) ?_; with_reducible ((k_here; k_dflt (first | (refine' r_sort3 ?F ?N ?m ?e ?_; (case F => k_asm); (case N => k_asm); (case m => k_mem); (case e => with_reducible assumption); (intro D8 tp8 tq8 tr8 c8 h8 F8 N8 l8; (try k_lt l8))) | (refine' r_sort2 ?F ?N ?m ?e ?_; (case F => k_asm); (case N => k_asm); (case m => k_mem); (case e => with_reducible assumption); (intro D8 tp8 tq8 c8 h8 F8 N8 l8; (try k_lt l8)))))))
    | (refine Stk.mk (k := 14) ?_; first | with_reducible ((k_here; (with_reducible show wpAny _ _ (subscriptTail _ _ (Value.ref _) (Value.int _ _)) _ _ _); k_dflt (refine' r_pick3 ?N ?m ?e ?c ?_ ?s; (case N => k_asm); (case m => k_mem); (case c => with_reducible assumption); (case e => first | (simp only [Int.fmod_eq_emod_of_nonneg _ (show (0 : Int) ≤ 3 by decide)]; omega) | omega); (case s => with_unfolding_all rfl)); (intro t8))) | with_reducible ((k_here; k_dflt (refine' r_veil ?e1 ?e2 ?_ ?s ?t; (case e1 => first | exact Int.fmod_nonneg_of_pos _ (by decide) | omega); (case e2 => first | exact Int.fmod_lt_of_pos _ (by decide) | omega); (case s => with_unfolding_all rfl); (case t => (intro _; with_unfolding_all rfl))); (intro v9 hv9)))))))
    refine' ⟨_, _, _, _, _, _, rfl, ?oF, ?oD, ?oV, ?oT, hys, ?oN, ?o1, ?o2⟩
    case oF => k_asm
    case oN => exact news_sub (by k_asm) (subC (by k_mem) (subC (by k_mem) (subC (by k_mem) (subC (by k_mem) (subC (by k_mem) (subC (by k_mem) (subC (by k_mem) (subC (by k_mem) sub0))))))))
    case oD => with_unfolding_all rfl
    case oV => with_unfolding_all rfl
    case oT => with_unfolding_all rfl
    case o1 => k_ne
    case o2 => k_ne
  obtain ⟨o1', o2', o3'⟩ := off3_split off'
  clear off'
  obtain ⟨n1', n2', n3'⟩ := ne3_split ne'
  clear ne' mk'
  iterate 14 (try ((first | (k_unfold; (try dsimp only)) | (k_end; wrow_close) | walk1 | (dsimp only; walk1) | (leave1; walk_say "STEP leave1"; (try dsimp only)) | fail "no step") <;> (repeat' (first
    | (refine Stk.mk (k := 1) ?_; with_reducible ((k_here; k_dflt (first | ((with_reducible show wpAny _ _ (call (Value.ref 166) _) _ _ _); (refine' use_any_hand3 (c_hand3 _ _ _ _ _ _ _ _ _) ?hs ?B ?F ?X ?N ?T ?hk ?hd ?hu ?_; (case N => k_asm); (case hs => exact subC (by k_mem) sub0); (case B => k_asm); (case F => k_asm); (case X => k_asm); (case T => k_asm); (case hk => first | exact rfl | assumption); (case hd => first | ktr_room | omega); (case hu => first | ktr_units | omega)); (intro D9 a9 b9 c9 ta9 tb9 tc9 n9 h9 tk9 l1 l2 l3 k1 k2 k3 F9 N9 hf9); (obtain ⟨hh9, hk9, hu9, hv9, H9⟩ := hid_ex l1 l2 l3 k1 k2 k3); (have H8 := H9); (obtain ⟨p9, q9, r9, hi9, hs9, hr9, hc9⟩ := H8); (obtain ⟨g1, g2, g3, g4, g5, g6⟩ := hid_rd H9)) | ((with_reducible show wpAny _ _ (call (Value.ref 166) _) _ _ _); (refine' use_any_hand2 (c_hand2 _ _ _ _ _ _ _) ?hs ?B ?F ?X ?N ?T ?hk ?hd ?hu ?_; (case N => k_asm); (case hs => exact subC (by k_mem) sub0); (case B => k_asm); (case F => k_asm); (case X => k_asm); (case T => k_asm); (case hk => first | exact rfl | assumption); (case hd => first | ktr_room | omega); (case hu => first | ktr_units | omega)); (intro D9 a9 b9 ta9 tb9 n9 h9 tk9 l1 l2 k1 F9 N9 hf9); (obtain ⟨p9, q9, hi9, hr1, hr2, hr3⟩ := ins2_ok l1 l2 k1)) | ((with_reducible show wpAny _ _ (call (Value.ref 173) _) _ _ _); (refine' use_any_typed (c_typedE _ _ _ _ _ _ _ _ _ _ _ ?l1 ?l2 ?l3 ?l4) ?hs ?B ?F ?X ?N ?T ?hk ?hd ?hu ?_; (case N => k_asm); (case hs => exact subC (by k_mem) sub0); (case B => k_asm); (case F => k_asm); (case X => k_asm); (case T => k_asm); (case hk => first | exact rfl | assumption); (case hd => first | ktr_room | omega); (case hu => first | ktr_units | omega); (case l1 => omega); (case l2 => omega); (case l3 => omega); (case l4 => omega)); (intro a9 b9 c9 t9 h9 tk9 l1 l2 l3 k1 k2 k3 F9 N9)) | ((with_reducible show wpAny _ _ (call (Value.ref 202) _) _ _ _); (refine' use_str (c_msgE _ _ _ _ _ _ _ _ _ ?l1 ?l2 ?l3) ?hs ?B ?F ?X ?N ?T ?hk ?hd ?hu ?_; (case l1 => omega); (case l2 => omega); (case l3 => omega); (case N => k_asm); (case hs => exact sub0); (case B => k_asm); (case F => k_asm); (case X => k_asm); (case T => k_asm); (case hk => first | exact rfl | assumption); (case hd => first | ktr_room | omega); (case hu => first | ktr_units | omega)); (intro t9 h9 tk9 F9 N9)) | ((with_reducible show wpAny _ _ (call (Value.ref 190) _) _ _ _); (refine' use_two_hs (c_wriE _ _ _ _ _ _ _ ?l1 ?l2 ?l3 _ _ _ ?k1 ?k2 ?k3 ?k4 _ _ _ _ ?H _ _ _ _ _ _ ?S ?S2 ?h1 ?h2 ?h3 ?h4) ?hs ?B ?F ?X ?N ?T ?hk ?hd ?hu ?U ?U2 ?_; (case S => with_reducible assumption); (case S2 => with_reducible assumption); (case N => k_asm); (case hs => exact subC (by k_mem) (subC (by k_mem) (subC (by k_mem) (subC (by k_mem) sub0)))); (case B => k_asm); (case F => k_asm); (case X => k_asm); (case T => k_asm); (case hk => first | exact rfl | assumption); (case hd => first | ktr_room | omega); (case hu => first | ktr_units | omega); (case l1 => with_reducible assumption); (case l2 => with_reducible assumption); (case l3 => with_reducible assumption); (case k1 => with_reducible assumption); (case k2 => with_reducible assumption); (case k3 => with_reducible assumption); (case k4 => with_reducible assumption); (case H => with_reducible assumption); (case h1 => exact ofNe (by k_ne)); (case h2 => exact ofNe (by k_ne)); (case h3 => exact ofNe (by k_ne)); (case h4 => exact ofNe (by k_ne)); (case U => k_updF); (case U2 => (intro o9'; (try dsimp only); k_updF))); (intro T9 t9 u9 x9 ox9 y9 oy9 h9 tk9 S8 S9 hC9 hD9 F9 N9 hf9 ho1 ho2 ho3 ho4 hv8 hv9); (try dsimp only [List.cons_append, List.nil_append] at N9)) | ((with_reducible show wpAny _ _ (call (Value.ref 195) _) _ _ _); (refine' use_two_int (c_rdE _ _ _ _ _ _ ?l1 ?l2 ?l3 ?l4 ?l5 _ _ _ _ _ _ ?S ?S2 ?h1 ?h2 ?h3 ?h4) ?hs ?B ?F ?X ?N ?T ?hk ?hd ?hu ?U ?U2 ?_; (case S => with_reducible assumption); (case S2 => with_reducible assumption); (case N => k_asm); (case hs => exact subC (by k_mem) (subC (by k_mem) (subC (by k_mem) (subC (by k_mem) sub0)))); (case B => k_asm); (case F => k_asm); (case X => k_asm); (case T => k_asm); (case hk => first | exact rfl | assumption); (case hd => first | ktr_room | omega); (case hu => first | ktr_units | omega); (case l1 => with_reducible assumption); (case l2 => omega); (case l3 => omega); (case l4 => omega); (case l5 => omega); (case h1 => exact ofNe (by k_ne)); (case h2 => exact ofNe (by k_ne)); (case h3 => exact ofNe (by k_ne)); (case h4 => exact ofNe (by k_ne)); (case U => k_updF); (case U2 => (intro o9'; (try dsimp only); k_updF))); (intro t9 x9 ox9 y9 oy9 h9 tk9 S8 S9 hC9 hD9 F9 N9 ho1 ho2 ho3 ho4 hv8 hv9); (try dsimp only [List.cons_append, List.nil_append] at N9))); (try dsimp only); (try k_fold))))
    | (refine Stk.mk (k := 25) ?_; with_reducible ((k_here; (with_reducible show wpAny _ _ (subscriptTail _ _ (Value.ref _) (Value.int _ _)) _ _ _); k_dflt (first | (refine' r_lij 0 ?e ?v ?j ?N ?m ?_ ?s; (case e => decide); (case j => decide); (case N => k_asm); (case m => k_mem); (case v => exact rfl); (case s => with_unfolding_all rfl)) | (refine' r_lij 1 ?e ?v ?j ?N ?m ?_ ?s; (case e => decide); (case j => decide); (case N => k_asm); (case m => k_mem); (case v => exact rfl); (case s => with_unfolding_all rfl)) | (refine' r_lij 2 ?e ?v ?j ?N ?m ?_ ?s; (case e => decide); (case j => decide); (case N => k_asm); (case m => k_mem); (case v => exact rfl); (case s => with_unfolding_all rfl)) | (refine' r_lij 3 ?e ?v ?j ?N ?m ?_ ?s; (case e => decide); (case j => decide); (case N => k_asm); (case m => k_mem); (case v => exact rfl); (case s => with_unfolding_all rfl)) | (refine' r_lij 4 ?e ?v ?j ?N ?m ?_ ?s; (case e => decide); (case j => decide); (case N => k_asm); (case m => k_mem); (case v => exact rfl); (case s => with_unfolding_all rfl)) | (refine' r_lij 5 ?e ?v ?j ?N ?m ?_ ?s; (case e => decide); (case j => decide); (case N => k_asm); (case m => k_mem); (case v => exact rfl); (case s => with_unfolding_all rfl)) | (refine' r_lij 6 ?e ?v ?j ?N ?m ?_ ?s; (case e => decide); (case j => decide); (case N => k_asm); (case m => k_mem); (case v => exact rfl); (case s => with_unfolding_all rfl))))))
    | (refine Stk.mk (k := 29) ?_; with_reducible ((k_here; k_dflt (first | (refine' r_sort3 ?F ?N ?m ?e ?_; (case F => k_asm); (case N => k_asm); (case m => k_mem); (case e => with_reducible assumption); (intro D8 tp8 tq8 tr8 c8 h8 F8 N8 l8; (try k_lt l8))) | (refine' r_sort2 ?F ?N ?m ?e ?_; (case F => k_asm); (case N => k_asm); (case m => k_mem); (case e => with_reducible assumption); (intro D8 tp8 tq8 c8 h8 F8 N8 l8; (try k_lt l8)))))))
    | (refine Stk.mk (k := 14) ?_; first | with_reducible ((k_here; (with_reducible show wpAny _ _ (subscriptTail _ _ (Value.ref _) (Value.int _ _)) _ _ _); k_dflt (refine' r_pick3 ?N ?m ?e ?c ?_ ?s; (case N => k_asm); (case m => k_mem); (case c => with_reducible assumption); (case e => first | (simp only [Int.fmod_eq_emod_of_nonneg _ (show (0 : Int) ≤ 3 by decide)]; omega) | omega); (case s => with_unfolding_all rfl)); (intro t8))) | with_reducible ((k_here; k_dflt (refine' r_veil ?e1 ?e2 ?_ ?s ?t; (case e1 => first | exact Int.fmod_nonneg_of_pos _ (by decide) | omega); (case e2 => first | exact Int.fmod_lt_of_pos _ (by decide) | omega); (case s => with_unfolding_all rfl); (case t => (intro _; with_unfolding_all rfl))); (intro v9 hv9))))))))
  · rename (List.any _ _) = true => ha
    have ha2 : k' = lo ∨ k' = hi := by
      simp only [List.any_cons, List.any_nil, Bool.or_false, Bool.or_eq_true, beq_iff_eq] at ha
      omega
    clear ha
    rw [if_neg (by decide)]
    refine ⟨_, _, _, rfl, by k_asm, news_sub (by k_asm) (subC (by k_mem) (subC (by k_mem) (subC (by k_mem) (subC (by k_mem) (subC (by k_mem) (subC (by k_mem) (subC (by k_mem) (subC (by k_mem) (subC (by k_mem) (subC (by k_mem) sub0)))))))))), off3_back o1' o2' o3', trivial, rfl, thG_no (fun q => ?_)⟩
    rcases ha2 with e | e
    · exact q.1 e
    · exact q.2.1 e
  · rename (List.any _ _) = false => ha
    have ha2 : k' ≠ lo ∧ k' ≠ hi := by
      simp only [List.any_cons, List.any_nil, Bool.or_false, Bool.or_eq_false_iff, beq_eq_false_iff_ne] at ha
      omega
    clear ha
    obtain ⟨hh, hk, hu, hv, H⟩ := hid_ex (x := lo) (y := hi) (z := k') (by omega) (by omega) (by omega) (by omega) (by omega) (by omega)
    have hp := hid_pick H
    obtain ⟨p9, q9, r9, hi9, hs9, hr9, hc9⟩ := H
    repeat' ((first | (k_unfold; (try dsimp only)) | (k_end; kc_close) | walk1 | (dsimp only; walk1) | (leave1; walk_say "STEP leave1"; (try dsimp only)) | fail "no step") <;> (repeat' (first
    | (refine Stk.mk (k := 1) ?_; with_reducible ((k_here; k_dflt (first | ((with_reducible show wpAny _ _ (call (Value.ref 166) _) _ _ _); (refine' use_any_hand3 (c_hand3 _ _ _ _ _ _ _ _ _) ?hs ?B ?F ?X ?N ?T ?hk ?hd ?hu ?_; (case N => k_asm); (case hs => exact subC (by k_mem) sub0); (case B => k_asm); (case F => k_asm); (case X => k_asm); (case T => k_asm); (case hk => first | exact rfl | assumption); (case hd => first | ktr_room | omega); (case hu => first | ktr_units | omega)); (intro D9 a9 b9 c9 ta9 tb9 tc9 n9 h9 tk9 l1 l2 l3 k1 k2 k3 F9 N9 hf9); (obtain ⟨hh9, hk9, hu9, hv9, H9⟩ := hid_ex l1 l2 l3 k1 k2 k3); (have H8 := H9); (obtain ⟨p9, q9, r9, hi9, hs9, hr9, hc9⟩ := H8); (obtain ⟨g1, g2, g3, g4, g5, g6⟩ := hid_rd H9)) | ((with_reducible show wpAny _ _ (call (Value.ref 166) _) _ _ _); (refine' use_any_hand2 (c_hand2 _ _ _ _ _ _ _) ?hs ?B ?F ?X ?N ?T ?hk ?hd ?hu ?_; (case N => k_asm); (case hs => exact subC (by k_mem) sub0); (case B => k_asm); (case F => k_asm); (case X => k_asm); (case T => k_asm); (case hk => first | exact rfl | assumption); (case hd => first | ktr_room | omega); (case hu => first | ktr_units | omega)); (intro D9 a9 b9 ta9 tb9 n9 h9 tk9 l1 l2 k1 F9 N9 hf9); (obtain ⟨p9, q9, hi9, hr1, hr2, hr3⟩ := ins2_ok l1 l2 k1)) | ((with_reducible show wpAny _ _ (call (Value.ref 173) _) _ _ _); (refine' use_any_typed (c_typedE _ _ _ _ _ _ _ _ _ _ _ ?l1 ?l2 ?l3 ?l4) ?hs ?B ?F ?X ?N ?T ?hk ?hd ?hu ?_; (case N => k_asm); (case hs => exact subC (by k_mem) sub0); (case B => k_asm); (case F => k_asm); (case X => k_asm); (case T => k_asm); (case hk => first | exact rfl | assumption); (case hd => first | ktr_room | omega); (case hu => first | ktr_units | omega); (case l1 => omega); (case l2 => omega); (case l3 => omega); (case l4 => omega)); (intro a9 b9 c9 t9 h9 tk9 l1 l2 l3 k1 k2 k3 F9 N9)) | ((with_reducible show wpAny _ _ (call (Value.ref 202) _) _ _ _); (refine' use_str (c_msgE _ _ _ _ _ _ _ _ _ ?l1 ?l2 ?l3) ?hs ?B ?F ?X ?N ?T ?hk ?hd ?hu ?_; (case l1 => omega); (case l2 => omega); (case l3 => omega); (case N => k_asm); (case hs => exact sub0); (case B => k_asm); (case F => k_asm); (case X => k_asm); (case T => k_asm); (case hk => first | exact rfl | assumption); (case hd => first | ktr_room | omega); (case hu => first | ktr_units | omega)); (intro t9 h9 tk9 F9 N9)) | ((with_reducible show wpAny _ _ (call (Value.ref 190) _) _ _ _); (refine' use_two_hs (c_wriE _ _ _ _ _ _ _ ?l1 ?l2 ?l3 _ _ _ ?k1 ?k2 ?k3 ?k4 _ _ _ _ ?H _ _ _ _ _ _ ?S ?S2 ?h1 ?h2 ?h3 ?h4) ?hs ?B ?F ?X ?N ?T ?hk ?hd ?hu ?U ?U2 ?_; (case S => with_reducible assumption); (case S2 => with_reducible assumption); (case N => k_asm); (case hs => exact subC (by k_mem) (subC (by k_mem) (subC (by k_mem) (subC (by k_mem) sub0)))); (case B => k_asm); (case F => k_asm); (case X => k_asm); (case T => k_asm); (case hk => first | exact rfl | assumption); (case hd => first | ktr_room | omega); (case hu => first | ktr_units | omega); (case l1 => with_reducible assumption); (case l2 => with_reducible assumption); (case l3 => with_reducible assumption); (case k1 => with_reducible assumption); (case k2 => with_reducible assumption); (case k3 => with_reducible assumption); (case k4 => with_reducible assumption); (case H => with_reducible assumption); (case h1 => exact ofNe (by k_ne)); (case h2 => exact ofNe (by k_ne)); (case h3 => exact ofNe (by k_ne)); (case h4 => exact ofNe (by k_ne)); (case U => k_updF); (case U2 => (intro o9'; (try dsimp only); k_updF))); (intro T9 t9 u9 x9 ox9 y9 oy9 h9 tk9 S8 S9 hC9 hD9 F9 N9 hf9 ho1 ho2 ho3 ho4 hv8 hv9); (try dsimp only [List.cons_append, List.nil_append] at N9)) | ((with_reducible show wpAny _ _ (call (Value.ref 195) _) _ _ _); (refine' use_two_int (c_rdE _ _ _ _ _ _ ?l1 ?l2 ?l3 ?l4 ?l5 _ _ _ _ _ _ ?S ?S2 ?h1 ?h2 ?h3 ?h4) ?hs ?B ?F ?X ?N ?T ?hk ?hd ?hu ?U ?U2 ?_; (case S => with_reducible assumption); (case S2 => with_reducible assumption); (case N => k_asm); (case hs => exact subC (by k_mem) (subC (by k_mem) (subC (by k_mem) (subC (by k_mem) sub0)))); (case B => k_asm); (case F => k_asm); (case X => k_asm); (case T => k_asm); (case hk => first | exact rfl | assumption); (case hd => first | ktr_room | omega); (case hu => first | ktr_units | omega); (case l1 => with_reducible assumption); (case l2 => omega); (case l3 => omega); (case l4 => omega); (case l5 => omega); (case h1 => exact ofNe (by k_ne)); (case h2 => exact ofNe (by k_ne)); (case h3 => exact ofNe (by k_ne)); (case h4 => exact ofNe (by k_ne)); (case U => k_updF); (case U2 => (intro o9'; (try dsimp only); k_updF))); (intro t9 x9 ox9 y9 oy9 h9 tk9 S8 S9 hC9 hD9 F9 N9 ho1 ho2 ho3 ho4 hv8 hv9); (try dsimp only [List.cons_append, List.nil_append] at N9))); (try dsimp only); (try k_fold))))
    | (refine Stk.mk (k := 25) ?_; with_reducible ((k_here; (with_reducible show wpAny _ _ (subscriptTail _ _ (Value.ref _) (Value.int _ _)) _ _ _); k_dflt (first | (refine' r_lij 0 ?e ?v ?j ?N ?m ?_ ?s; (case e => decide); (case j => decide); (case N => k_asm); (case m => k_mem); (case v => exact rfl); (case s => with_unfolding_all rfl)) | (refine' r_lij 1 ?e ?v ?j ?N ?m ?_ ?s; (case e => decide); (case j => decide); (case N => k_asm); (case m => k_mem); (case v => exact rfl); (case s => with_unfolding_all rfl)) | (refine' r_lij 2 ?e ?v ?j ?N ?m ?_ ?s; (case e => decide); (case j => decide); (case N => k_asm); (case m => k_mem); (case v => exact rfl); (case s => with_unfolding_all rfl)) | (refine' r_lij 3 ?e ?v ?j ?N ?m ?_ ?s; (case e => decide); (case j => decide); (case N => k_asm); (case m => k_mem); (case v => exact rfl); (case s => with_unfolding_all rfl)) | (refine' r_lij 4 ?e ?v ?j ?N ?m ?_ ?s; (case e => decide); (case j => decide); (case N => k_asm); (case m => k_mem); (case v => exact rfl); (case s => with_unfolding_all rfl)) | (refine' r_lij 5 ?e ?v ?j ?N ?m ?_ ?s; (case e => decide); (case j => decide); (case N => k_asm); (case m => k_mem); (case v => exact rfl); (case s => with_unfolding_all rfl)) | (refine' r_lij 6 ?e ?v ?j ?N ?m ?_ ?s; (case e => decide); (case j => decide); (case N => k_asm); (case m => k_mem); (case v => exact rfl); (case s => with_unfolding_all rfl))))))
    | (refine Stk.mk (k := 29) ?_; with_reducible ((k_here; k_dflt (first | (refine' r_sort3 ?F ?N ?m ?e ?_; (case F => k_asm); (case N => k_asm); (case m => k_mem); (case e => with_reducible assumption); (intro D8 tp8 tq8 tr8 c8 h8 F8 N8 l8; (try k_lt l8))) | (refine' r_sort2 ?F ?N ?m ?e ?_; (case F => k_asm); (case N => k_asm); (case m => k_mem); (case e => with_reducible assumption); (intro D8 tp8 tq8 c8 h8 F8 N8 l8; (try k_lt l8)))))))
    | (refine Stk.mk (k := 14) ?_; first | with_reducible ((k_here; (with_reducible show wpAny _ _ (subscriptTail _ _ (Value.ref _) (Value.int _ _)) _ _ _); k_dflt (refine' r_pick3 ?N ?m ?e ?c ?_ ?s; (case N => k_asm); (case m => k_mem); (case c => with_reducible assumption); (case e => first | (simp only [Int.fmod_eq_emod_of_nonneg _ (show (0 : Int) ≤ 3 by decide)]; omega) | omega); (case s => with_unfolding_all rfl)); (intro t8))) | with_reducible ((k_here; k_dflt (refine' r_veil ?e1 ?e2 ?_ ?s ?t; (case e1 => first | exact Int.fmod_nonneg_of_pos _ (by decide) | omega); (case e2 => first | exact Int.fmod_lt_of_pos _ (by decide) | omega); (case s => with_unfolding_all rfl); (case t => (intro _; with_unfolding_all rfl))); (intro v9 hv9)))))))
    · rename hh = k' => e8
      refine ⟨_, _, _, rfl, by k_asm, news_sub (by k_asm) (subC (by k_mem) (subC (by k_mem) (subC (by k_mem) (subC (by k_mem) (subC (by k_mem) (subC (by k_mem) (subC (by k_mem) (subC (by k_mem) (subC (by k_mem) (subC (by k_mem) sub0)))))))))), off3_back o1' o2' o3', trivial, rfl, _, _, rfl, ?_⟩
      subst e8
      exact thG_yes ha2.1 ha2.2 hp
    · rename ¬ hh = k' => e8
      refine ⟨_, _, _, rfl, by k_asm, news_sub (by k_asm) (subC (by k_mem) (subC (by k_mem) (subC (by k_mem) (subC (by k_mem) (subC (by k_mem) (subC (by k_mem) (subC (by k_mem) (subC (by k_mem) (subC (by k_mem) (subC (by k_mem) sub0)))))))))), off3_back o1' o2' o3', trivial, rfl, thG_no (fun q => e8 (hp.symm.trans q.2.2))⟩




noncomputable def P4 (body : List Stmt) (scope : Scope) : Prop :=
  ∀ (w : World) (p : Program) (loose : List Str) (mean : ExcName → Option Value) (mg mb : Str → Option Value) (g : Heap) (L f : Addr) (cd : Value) (k1 k2 : Obj) (s : Shared) (Q : Flow → Shared → Prop) (Er : Result → Shared → Prop) (D TH : Addr) (d0 d1 d2 d3 d4 d5 d6 : Int) (t0 t1 t2 t3 t4 t5 t6 : Tok) (n : Nat) (lo hi : Int) (tlo thi : Tok) (vv : Nat) (vt : Tok) (o1 : Obj) (x : Addr) (ox : Obj) (o2 : Obj) (y : Addr) (oy : Obj) (m : Str → Option Value) (ws : List Value) (nt : Nat),
    Fr g L s.heap (fun y => if y = Str.ofString "draws" then some (.ref D) else if y = Str.ofString "veil" then some (.str ⟨#[vv]⟩ vt) else if y = Str.ofString "thirds" then some (.ref TH) else m y) →
    News g L s.heap [(TH, listOf (List.toArray ws) nt), (D, listOf #[.int d0 t0, .int d1 t1, .int d2 t2, .int d3 t3, .int d4 t4, .int d5 t5, .int d6 t6] n), (44, o1), (x, ox), (51, o2), (y, oy), (L + 1 + 1, k2), (L + 1, k1)] →
    IntsAre ws [rd 0 lo hi, rd 1 lo hi, rd 2 lo hi, rd 3 lo hi, rd 4 lo hi, rd 5 lo hi, rd 6 lo hi, rd 7 lo hi] → isVeil vv = true → (0 ≤ d3 ∧ d3 < 1000000) →
    (0 ≤ lo ∧ lo < hi ∧ hi < 26) → k1.data = .cell (some (.int lo tlo)) → k2.data = .cell (some (.int hi thi)) → St 44 80 4 q1 o1 x ox → St 51 95 4 q2 o2 y oy → x ≠ 44 → x ≠ 51 → y ≠ 44 → y ≠ 51 → D ≠ 44 → D ≠ 51 → TH ≠ 44 → TH ≠ 51 →
    (@LT.lt Nat _ 51 L ∧ @LT.lt Nat _ 44 L) →
    Below callerA g [] g → (K w.params).In g → Top p loose mean mg mb g → (∀ h' tk' m' p1 p2, Fr g L h' m' → News g L h' [(44, tabObj p1), (51, tabObj p2)] → Q (.ret (.bool true)) { s with heap := h', toks := tk' }) →
    wpAny (model pgm w) (callerA.deeper (envOfC (Str.ofString "law") scope L f cd)) (execs (body.drop 8) (envOfC (Str.ofString "law") scope L f cd)) Q (fun e s' => wpAny (model pgm w) (callerA.deeper (envOfC (Str.ofString "law") scope L f cd)) (leaving (envOfC (Str.ofString "law") scope L f cd) e) (fun _ s'' => Er (.error e) s'') (fun e' s'' => Er (.error e') s'') s') s
theorem r_ne_tup {w : World} {A : Around} {E : Value → Shared → Prop} {s : Shared} {h₀ : Heap} {L a b : Addr} {news : List (Addr × Obj)} {i : Int} {x : Str} {t u t' u' : Tok} {n n' : Nat} {Q : Value → Shared → Prop}
    (N : News h₀ L s.heap news) (ha : (a, ({ cls := .type "tuple", data := .seq #[.int i t, .str x u] n } : Obj)) ∈ news) (hb : (b, ({ cls := .type "tuple", data := .seq #[.int i t', .str x u'] n' } : Obj)) ∈ news) (hx : PyData.strOk x = true) (hu : A.units + 64 < cLine) (h : Q (.bool false) s) :
    wpAny (model pgm w) A (compareOp .NotEq (.ref a) (.ref b)) Q E s := by
  have hs : SeqAt.shaped (.tuple [.int i, .str x]) = true := by simp [SeqAt.shaped, PyData.canLay0, PyData.canLayAll0, PyData.depth, PyData.depthAll, hx]
  refine ne_dataH (reads_tuple_at (News.get N ha) rfl rfl (ReadsAll.cons (Reads.int _ _) (ReadsAll.cons (Reads.str _ _) ReadsAll.nil))) (reads_tuple_at (News.get N hb) rfl rfl (ReadsAll.cons (Reads.int _ _) (ReadsAll.cons (Reads.str _ _) ReadsAll.nil))) hs hs hu ?_
  simp only [PyData.eqv, PyData.eqvAll, beq_self_eq_true, Bool.and_true, Bool.not_true]
  exact h
theorem wmsg_ok {k u v : Int} {vv : Nat} (hv : isVeil vv = true) (hu : 0 ≤ u ∧ u < 26) (hw : 0 ≤ v ∧ v < 26) : PyData.strOk (wmsg k u v vv) = true := by
  have b0 : 0 ≤ k % 2 ∧ k % 2 < 2 := by omega
  have b1 : 0 ≤ k / 2 % 2 ∧ k / 2 % 2 < 2 := by omega
  have l4 := (wsign_facts b0 hu).2.2.2
  have m4 := (wsign_facts b1 hw).2.2.2
  have v4 : vv < 0x110000 := by
    simp only [isVeil, Bool.or_eq_true, beq_iff_eq] at hv
    omega
  unfold wmsg PyData.strOk
  split
  · simp
    omega
  · simp
    omega
local macro_rules | `(tactic| walk_at "subscriptTail Name Name ref int") => `(tactic| refine Stk.out (k := 13) ?_)
local macro_rules | `(tactic| walk_at "compareOp NotEq ref ref") => `(tactic| refine Stk.out (k := 30) ?_)
set_option maxHeartbeats 4000000 in
theorem law_p4 : P4 lawBody lawScope := by
  refine law_lit (P := P4) (by exact rfl) ?_
  intro w p loose mean mg mb g L f cd k1 k2 s Q Er D TH d0 d1 d2 d3 d4 d5 d6 t0 t1 t2 t3 t4 t5 t6 n lo hi tlo thi vv vt o1 x ox o2 y oy m ws nt F N hws hvv hd3 hlh c1 c2 S1 S2 nx1 nx2 ny1 ny2 nD1 nD2 nT1 nT2 hL B X T hret
  have f0 := Int.fmod_nonneg_of_pos d6 (show (0 : Int) < 8 by decide)
  have f1 := Int.fmod_lt_of_pos d6 (show (0 : Int) < 8 by decide)
  obtain ⟨ta, ga⟩ := el_ints (n := nt) hws f0 f1
  obtain ⟨tb, gb⟩ := el_ints (n := nt) (k := 7 - d6.fmod 8) hws (by omega) (by omega)
  have g3 : ElAt (listOf #[.int d0 t0, .int d1 t1, .int d2 t2, .int d3 t3, .int d4 t4, .int d5 t5, .int d6 t6] n) 3 (.int d3 t3) := ⟨_, n, rfl, by decide, by decide, rfl⟩
  have g6 : ElAt (listOf #[.int d0 t0, .int d1 t1, .int d2 t2, .int d3 t3, .int d4 t4, .int d5 t5, .int d6 t6] n) 6 (.int d6 t6) := ⟨_, n, rfl, by decide, by decide, rfl⟩
  clear hws
  generalize listOf (List.toArray ws) nt = oT at N ga gb
  generalize listOf #[.int d0 t0, .int d1 t1, .int d2 t2, .int d3 t3, .int d4 t4, .int d5 t5, .int d6 t6] n = oD at N g3 g6
  obtain ⟨H1, r1, r2, r3⟩ := hid_th (n := d6.fmod 8) (l := lo) (h := hi) ⟨f0, f1⟩ hlh.1 hlh.2.1 hlh.2.2
  obtain ⟨H2, r4, r5, r6⟩ := hid_th (n := 7 - d6.fmod 8) (l := lo) (h := hi) ⟨by omega, by omega⟩ hlh.1 hlh.2.1 hlh.2.2
  simp only [List.take, List.drop]
  repeat' ((first | (k_unfold; (try dsimp only)) | (k_end; kc_close) | walk1 | (dsimp only; walk1) | (leave1; walk_say "STEP leave1"; (try dsimp only)) | fail "no step") <;> (repeat' (first
    | (refine Stk.mk (k := 1) ?_; with_reducible ((k_here; k_dflt (first | ((with_reducible show wpAny _ _ (call (Value.ref 166) _) _ _ _); (refine' use_any_hand3 (c_hand3 _ _ _ _ _ _ _ _ _) ?hs ?B ?F ?X ?N ?T ?hk ?hd ?hu ?_; (case N => k_asm); (case hs => exact subC (by k_mem) sub0); (case B => k_asm); (case F => k_asm); (case X => k_asm); (case T => k_asm); (case hk => first | exact rfl | assumption); (case hd => first | ktr_room | omega); (case hu => first | ktr_units | omega)); (intro D9 a9 b9 c9 ta9 tb9 tc9 n9 h9 tk9 l1 l2 l3 k1 k2 k3 F9 N9 hf9); (obtain ⟨hh9, hk9, hu9, hv9, H9⟩ := hid_ex l1 l2 l3 k1 k2 k3); (have H8 := H9); (obtain ⟨p9, q9, r9, hi9, hs9, hr9, hc9⟩ := H8); (obtain ⟨g1, g2, g3, g4, g5, g6⟩ := hid_rd H9)) | ((with_reducible show wpAny _ _ (call (Value.ref 166) _) _ _ _); (refine' use_any_hand2 (c_hand2 _ _ _ _ _ _ _) ?hs ?B ?F ?X ?N ?T ?hk ?hd ?hu ?_; (case N => k_asm); (case hs => exact subC (by k_mem) sub0); (case B => k_asm); (case F => k_asm); (case X => k_asm); (case T => k_asm); (case hk => first | exact rfl | assumption); (case hd => first | ktr_room | omega); (case hu => first | ktr_units | omega)); (intro D9 a9 b9 ta9 tb9 n9 h9 tk9 l1 l2 k1 F9 N9 hf9); (obtain ⟨p9, q9, hi9, hr1, hr2, hr3⟩ := ins2_ok l1 l2 k1)) | ((with_reducible show wpAny _ _ (call (Value.ref 173) _) _ _ _); (refine' use_any_typed (c_typedE _ _ _ _ _ _ _ _ _ _ _ ?l1 ?l2 ?l3 ?l4) ?hs ?B ?F ?X ?N ?T ?hk ?hd ?hu ?_; (case N => k_asm); (case hs => exact subC (by k_mem) sub0); (case B => k_asm); (case F => k_asm); (case X => k_asm); (case T => k_asm); (case hk => first | exact rfl | assumption); (case hd => first | ktr_room | omega); (case hu => first | ktr_units | omega); (case l1 => omega); (case l2 => omega); (case l3 => omega); (case l4 => omega)); (intro a9 b9 c9 t9 h9 tk9 l1 l2 l3 k1 k2 k3 F9 N9)) | ((with_reducible show wpAny _ _ (call (Value.ref 202) _) _ _ _); (refine' use_str (c_msgE _ _ _ _ _ _ _ _ _ ?l1 ?l2 ?l3) ?hs ?B ?F ?X ?N ?T ?hk ?hd ?hu ?_; (case l1 => omega); (case l2 => omega); (case l3 => omega); (case N => k_asm); (case hs => exact sub0); (case B => k_asm); (case F => k_asm); (case X => k_asm); (case T => k_asm); (case hk => first | exact rfl | assumption); (case hd => first | ktr_room | omega); (case hu => first | ktr_units | omega)); (intro t9 h9 tk9 F9 N9)) | ((with_reducible show wpAny _ _ (call (Value.ref 190) _) _ _ _); (refine' use_two_hs (c_wriE _ _ _ _ _ _ _ ?l1 ?l2 ?l3 _ _ _ ?k1 ?k2 ?k3 ?k4 _ _ _ _ ?H _ _ _ _ _ _ ?S ?S2 ?h1 ?h2 ?h3 ?h4) ?hs ?B ?F ?X ?N ?T ?hk ?hd ?hu ?U ?U2 ?_; (case S => with_reducible assumption); (case S2 => with_reducible assumption); (case N => k_asm); (case hs => exact subC (by k_mem) (subC (by k_mem) (subC (by k_mem) (subC (by k_mem) sub0)))); (case B => k_asm); (case F => k_asm); (case X => k_asm); (case T => k_asm); (case hk => first | exact rfl | assumption); (case hd => first | ktr_room | omega); (case hu => first | ktr_units | omega); (case l1 => with_reducible assumption); (case l2 => with_reducible assumption); (case l3 => with_reducible assumption); (case k1 => with_reducible assumption); (case k2 => with_reducible assumption); (case k3 => with_reducible assumption); (case k4 => with_reducible assumption); (case H => with_reducible assumption); (case h1 => exact ofNe (by k_ne)); (case h2 => exact ofNe (by k_ne)); (case h3 => exact ofNe (by k_ne)); (case h4 => exact ofNe (by k_ne)); (case U => k_updF); (case U2 => (intro o9'; (try dsimp only); k_updF))); (intro T9 t9 u9 x9 ox9 y9 oy9 h9 tk9 S8 S9 hC9 hD9 F9 N9 hf9 ho1 ho2 ho3 ho4 hv8 hv9); (try dsimp only [List.cons_append, List.nil_append] at N9)) | ((with_reducible show wpAny _ _ (call (Value.ref 195) _) _ _ _); (refine' use_two_int (c_rdE _ _ _ _ _ _ ?l1 ?l2 ?l3 ?l4 ?l5 _ _ _ _ _ _ ?S ?S2 ?h1 ?h2 ?h3 ?h4) ?hs ?B ?F ?X ?N ?T ?hk ?hd ?hu ?U ?U2 ?_; (case S => with_reducible assumption); (case S2 => with_reducible assumption); (case N => k_asm); (case hs => exact subC (by k_mem) (subC (by k_mem) (subC (by k_mem) (subC (by k_mem) sub0)))); (case B => k_asm); (case F => k_asm); (case X => k_asm); (case T => k_asm); (case hk => first | exact rfl | assumption); (case hd => first | ktr_room | omega); (case hu => first | ktr_units | omega); (case l1 => with_reducible assumption); (case l2 => omega); (case l3 => omega); (case l4 => omega); (case l5 => omega); (case h1 => exact ofNe (by k_ne)); (case h2 => exact ofNe (by k_ne)); (case h3 => exact ofNe (by k_ne)); (case h4 => exact ofNe (by k_ne)); (case U => k_updF); (case U2 => (intro o9'; (try dsimp only); k_updF))); (intro t9 x9 ox9 y9 oy9 h9 tk9 S8 S9 hC9 hD9 F9 N9 ho1 ho2 ho3 ho4 hv8 hv9); (try dsimp only [List.cons_append, List.nil_append] at N9))); (try dsimp only); (try k_fold))))
    | (refine Stk.mk (k := 25) ?_; first | with_reducible ((k_here; (with_reducible show wpAny _ _ (subscriptTail _ _ (Value.ref _) (Value.int _ _)) _ _ _); k_dflt (refine' r_at ?N ?m ?g ?_ ?s; (case N => k_asm); (case m => k_mem); (case g => with_reducible assumption); (case s => with_unfolding_all rfl)))) | with_reducible ((k_here; (with_reducible show wpAny _ _ (subscriptTail _ _ (Value.ref _) (Value.int _ _)) _ _ _); k_dflt (first | (refine' r_lij 0 ?e ?v ?j ?N ?m ?_ ?s; (case e => decide); (case j => decide); (case N => k_asm); (case m => k_mem); (case v => exact rfl); (case s => with_unfolding_all rfl)) | (refine' r_lij 1 ?e ?v ?j ?N ?m ?_ ?s; (case e => decide); (case j => decide); (case N => k_asm); (case m => k_mem); (case v => exact rfl); (case s => with_unfolding_all rfl)) | (refine' r_lij 2 ?e ?v ?j ?N ?m ?_ ?s; (case e => decide); (case j => decide); (case N => k_asm); (case m => k_mem); (case v => exact rfl); (case s => with_unfolding_all rfl)) | (refine' r_lij 3 ?e ?v ?j ?N ?m ?_ ?s; (case e => decide); (case j => decide); (case N => k_asm); (case m => k_mem); (case v => exact rfl); (case s => with_unfolding_all rfl)) | (refine' r_lij 4 ?e ?v ?j ?N ?m ?_ ?s; (case e => decide); (case j => decide); (case N => k_asm); (case m => k_mem); (case v => exact rfl); (case s => with_unfolding_all rfl)) | (refine' r_lij 5 ?e ?v ?j ?N ?m ?_ ?s; (case e => decide); (case j => decide); (case N => k_asm); (case m => k_mem); (case v => exact rfl); (case s => with_unfolding_all rfl)) | (refine' r_lij 6 ?e ?v ?j ?N ?m ?_ ?s; (case e => decide); (case j => decide); (case N => k_asm); (case m => k_mem); (case v => exact rfl); (case s => with_unfolding_all rfl))))))
    | (refine Stk.mk (k := 29) ?_; with_reducible ((k_here; k_dflt (first | (refine' r_sort3 ?F ?N ?m ?e ?_; (case F => k_asm); (case N => k_asm); (case m => k_mem); (case e => with_reducible assumption); (intro D8 tp8 tq8 tr8 c8 h8 F8 N8 l8; (try k_lt l8))) | (refine' r_sort2 ?F ?N ?m ?e ?_; (case F => k_asm); (case N => k_asm); (case m => k_mem); (case e => with_reducible assumption); (intro D8 tp8 tq8 c8 h8 F8 N8 l8; (try k_lt l8)))))))
    | (refine Stk.mk (k := 14) ?_; first | with_reducible ((k_here; (with_reducible show wpAny _ _ (subscriptTail _ _ (Value.ref _) (Value.int _ _)) _ _ _); k_dflt (refine' r_pick3 ?N ?m ?e ?c ?_ ?s; (case N => k_asm); (case m => k_mem); (case c => with_reducible assumption); (case e => first | (simp only [Int.fmod_eq_emod_of_nonneg _ (show (0 : Int) ≤ 3 by decide)]; omega) | omega); (case s => with_unfolding_all rfl)); (intro t8))) | with_reducible ((k_here; k_dflt (refine' r_veil ?e1 ?e2 ?_ ?s ?t; (case e1 => first | exact Int.fmod_nonneg_of_pos _ (by decide) | omega); (case e2 => first | exact Int.fmod_lt_of_pos _ (by decide) | omega); (case s => with_unfolding_all rfl); (case t => (intro _; with_unfolding_all rfl))); (intro v9 hv9))))
    | (refine Stk.mk (k := 13) ?_; with_reducible ((k_here; (with_reducible show wpAny _ _ (subscriptTail _ _ (Value.ref _) (Value.int _ _)) _ _ _); k_dflt (refine' r_at ?N ?m ?g ?_ ?s; (case N => k_asm); (case m => k_mem); (case g => with_reducible assumption); (case s => with_unfolding_all rfl)))))
    | (refine Stk.mk (k := 30) ?_; with_reducible ((k_here; (with_reducible show wpAny _ _ (compareOp CmpOp.NotEq (Value.ref _) (Value.ref _)) _ _ _); k_dflt (refine' r_ne_tup ?N ?a ?b ?x ?u ?_; (case N => k_asm); (case a => k_mem); (case b => k_mem); (case x => exact wmsg_ok (by with_reducible assumption) (by omega) (by omega)); (case u => exact Nat.le_of_ble_eq_true rfl))))))))
  exact hret _ _ _ _ _ (by k_asm) (news_sub (by k_asm) (subC (by k_mem) (subC (by k_mem) sub0)))
end
end
section
theorem law_cut_wp {M : Model} {Γ : Ctx} {env : Env} {P : Shared → Prop} {Q : Flow → Shared → Prop} {E : Value → Shared → Prop} {ys : List Stmt} (k : ∀ p s', P s' → Sem.wp M Γ (execs ys env) (fun f _ s' => Q f s') (fun e _ s' => E e s') p s') :
    ∀ (xs : List Stmt) (p : Pos) (s : Shared), Sem.wp M Γ (execs xs env) (fun f _ s' => f = .next ∧ P s') (fun e _ s' => E e s') p s → Sem.wp M Γ (execs (xs ++ ys) env) (fun f _ s' => Q f s') (fun e _ s' => E e s') p s
  | [], p, s, h => by
    rw [execs_nil, Sem.wp_pure'] at h
    exact k p s h.2
  | x :: xs, p, s, h => by
    rw [List.cons_append]
    rw [execs_cons, Sem.wp_bind'] at h ⊢
    refine Sem.wp_mono M Γ _ (fun f p' s' h' => ?_) (fun _ _ _ h' => h') _ _ h
    cases f with
    | next => exact law_cut_wp k xs p' s' h'
    | ret v => exact absurd (show Flow.ret v = Flow.next ∧ _ from h').1 (by simp)
    | brk => exact absurd (show Flow.brk = Flow.next ∧ _ from h').1 (by simp)
    | cont => exact absurd (show Flow.cont = Flow.next ∧ _ from h').1 (by simp)
theorem law_cut {M : Model} {A : Around} {s : Shared} {env : Env} {Q : Flow → Shared → Prop} {E : Value → Shared → Prop} {P : Shared → Prop} {l xs ys : List Stmt} (e : l = xs ++ ys)
    (h : wpAny M A (execs xs env) (fun f s' => f = .next ∧ P s') E s) (k : ∀ s', P s' → wpAny M A (execs ys env) Q E s') : wpAny M A (execs l env) Q E s := by
  subst e
  exact fun Γ p hΓ => law_cut_wp (fun p s' hp => k s' hp Γ p hΓ) xs p s (h Γ p hΓ)
theorem at_one {m : Str → Option Value} {a : Str} {v : Value} (h : m a = some v) : m = fun y => if y = a then some v else m y := by
  funext y
  by_cases e : y = a
  · rw [if_pos e, e, h]
  · rw [if_neg e]
theorem fr_two {g h : Heap} {L : Addr} {m : Str → Option Value} {a b : Str} {u v : Value} (F : Fr g L h m) (e1 : m a = some u) (e2 : m b = some v) : Fr g L h (fun y => if y = a then some u else if y = b then some v else m y) := by
  have e : (fun y => if y = a then some u else if y = b then some v else m y) = m := by
    funext y
    have h1 := congrFun (at_one e1) y
    have h2 := congrFun (at_one e2) y
    rw [← h2, ← h1]
  rw [e]; exact F
theorem fr_three {g h : Heap} {L : Addr} {m : Str → Option Value} {a b c : Str} {u v w : Value} (F : Fr g L h m) (e1 : m a = some u) (e2 : m b = some v) (e3 : m c = some w) : Fr g L h (fun y => if y = a then some u else if y = b then some v else if y = c then some w else m y) := by
  have e : (fun y => if y = a then some u else if y = b then some v else if y = c then some w else m y) = m := by
    funext y
    have h1 := congrFun (at_one e1) y
    have h2 := congrFun (at_one e2) y
    have h3 := congrFun (at_one e3) y
    rw [← h3, ← h2, ← h1]
  rw [e]; exact F
/-- the law's whole body -/
theorem law_all (w : World) (p : Program) (loose : List Str) (mean : ExcName → Option Value) (mg mb : Str → Option Value) (g : Heap) (L f : Addr) (cd : Value) (S : Addr) (ws : List Value) (dl : List Int) (k1 k2 : Obj) (s : Shared) (Q : Flow → Shared → Prop) (Er : Result → Shared → Prop)
    (F : Fr g L s.heap (bindL (envOfC (Str.ofString "law") lawScope L f cd).kindOf [(Str.ofString "script", .ref S)] fun _ => none)) (N : News g L s.heap [(L + 1 + 1, k2), (L + 1, k1), (51, tabObj #[]), (44, tabObj #[])]) (hL : @LT.lt Nat _ 51 L ∧ @LT.lt Nat _ 44 L)
    (c1 : k1.data = .cell none) (c2 : k2.data = .cell none) (B : Below callerA g [] g) (X : (K w.params).In g) (T : Top p loose mean mg mb g) (hS : g.IsList S ws.toArray) (hI : IntsAre ws dl) (hlen : ¬ (63 : Int) < (dl.length : Int))
    (hret : ∀ h' tk' m' p1 p2, Fr g L h' m' → News g L h' [(44, tabObj p1), (51, tabObj p2)] → Q (.ret (.bool true)) { s with heap := h', toks := tk' }) :
    wpAny (model pgm w) (callerA.deeper (envOfC (Str.ofString "law") lawScope L f cd)) (execs lawBody (envOfC (Str.ofString "law") lawScope L f cd)) Q (fun e s' => wpAny (model pgm w) (callerA.deeper (envOfC (Str.ofString "law") lawScope L f cd)) (leaving (envOfC (Str.ofString "law") lawScope L f cd) e) (fun _ s'' => Er (.error e) s'') (fun e' s'' => Er (.error e') s'') s') s := by
  refine law_cut (xs := lawBody.take 2) (ys := lawBody.drop 2) (List.take_append_drop 2 lawBody).symm (law_draws w p loose mean mg mb g L f cd S ws dl k1 k2 (tabObj #[]) (tabObj #[]) s _ F N hL B X T hS hI hlen) ?_
  rintro _ ⟨D, d0, d1, d2, d3, d4, d5, d6, t0, t1, t2, t3, t4, t5, t6, n, h, tk, m, rfl, F, N, hD, b0, b1, b2, b3, b4, b5, b6⟩
  refine law_cut (xs := (lawBody.drop 2).take 4) (ys := lawBody.drop 6) (by rw [← List.drop_drop (i := 4) (j := 2)]; exact (List.take_append_drop 4 _).symm) (law_p2 w p loose mean mg mb g L f cd k1 k2 _ _ D d0 d1 d2 d3 d4 d5 d6 t0 t1 t2 t3 t4 t5 t6 n m F N hD hL b0 b1 b2 b3 b4 b5 b6 B X T) ?_
  rintro _ ⟨D, d0, d1, d2, d3, d4, d5, d6, t0, t1, t2, t3, t4, t5, t6, n, vv, vt, o1, x, ox, o2, y, oy, h, tk, m, rfl, F, e1, e2, hvv, N, S1, S2, nx1, nx2, ny1, ny2, nD1, nD2, nx3, nx4, ny3, ny4, nD3, nD4, b0, b1, b2, b3, b4, b5, b6⟩
  refine law_cut (xs := (lawBody.drop 6).take 1) (ys := lawBody.drop 7) (by rw [← List.drop_drop (i := 1) (j := 6)]; exact (List.take_append_drop 1 _).symm) (law_p3a w p loose mean mg mb g L f cd k1 k2 _ _ D d0 d1 d2 d3 d4 d5 d6 t0 t1 t2 t3 t4 t5 t6 n vv vt o1 x ox o2 y oy m (fr_two F e1 e2) N c1 c2 S1 S2 nx1 nx2 ny1 ny2 nD1 nD2 nx3 nx4 ny3 ny4 nD3 nD4 hL B X T) ?_
  rintro _ ⟨lo, hi, tlo, thi, k1, k2, h, tk, m, rfl, F, e1, e2, hlh, c1, c2, N⟩
  refine law_cut (xs := (lawBody.drop 7).take 1) (ys := lawBody.drop 8) (by rw [← List.drop_drop (i := 1) (j := 7)]; exact (List.take_append_drop 1 _).symm) (law_p3b w p loose mean mg mb g L f cd k1 k2 _ _ D _ lo hi tlo thi vv vt o1 x ox o2 y oy m (fr_two F e1 e2) N hlh c1 c2 S1 S2 nx1 nx2 ny1 ny2 nD1 nD2 nx3 nx4 ny3 ny4 nD3 nD4 hL B X T) ?_
  rintro _ ⟨TH, ws, nt, h, tk, m, rfl, F, e1, e2, e3, hws, N, nT1, nT2⟩
  exact law_p4 w p loose mean mg mb g L f cd k1 k2 _ Q Er D TH d0 d1 d2 d3 d4 d5 d6 t0 t1 t2 t3 t4 t5 t6 n lo hi tlo thi vv vt o1 x ox o2 y oy m ws nt (fr_three F e1 e2 e3) N hws hvv b3 hlh c1 c2 S1 S2 nx1 nx2 ny1 ny2 nD1 nD2 nT1 nT2 hL B X T (fun h' tk' m' p1 p2 F' N' => hret h' tk' m' p1 p2 F' N')
/-- the same, as the skeleton's end asks it -/
theorem law_done (w : World) (p : Program) (loose : List Str) (mean : ExcName → Option Value) (mg mb : Str → Option Value) (g : Heap) (L f : Addr) (cd : Value) (S : Addr) (ws : List Value) (dl : List Int) (k1 k2 : Obj) (s : Shared) (R : Result → Shared → Prop)
    (F : Fr g L s.heap (bindL (envOfC (Str.ofString "law") lawScope L f cd).kindOf [(Str.ofString "script", .ref S)] fun _ => none)) (N : News g L s.heap [(L + 1 + 1, k2), (L + 1, k1), (51, tabObj #[]), (44, tabObj #[])]) (hL : @LT.lt Nat _ 51 L ∧ @LT.lt Nat _ 44 L)
    (c1 : k1.data = .cell none) (c2 : k2.data = .cell none) (B : Below callerA g [] g) (X : (K w.params).In g) (T : Top p loose mean mg mb g) (hS : g.IsList S ws.toArray) (hI : IntsAre ws dl) (hlen : ¬ (63 : Int) < (dl.length : Int))
    (hret : ∀ h' tk' m' p1 p2, Fr g L h' m' → News g L h' [(44, tabObj p1), (51, tabObj p2)] → R (.ok (.ret (.bool true))) { s with heap := h', toks := tk' }) :
    wpAny (model pgm w) (callerA.deeper (envOfC (Str.ofString "law") lawScope L f cd)) (execs lawBody (envOfC (Str.ofString "law") lawScope L f cd)) (fun fl s' => R (.ok (.ret (match fl with | .ret v => v | _ => .none))) s') (fun e s' => wpAny (model pgm w) (callerA.deeper (envOfC (Str.ofString "law") lawScope L f cd)) (leaving (envOfC (Str.ofString "law") lawScope L f cd) e) (fun _ s'' => R (.error e) s'') (fun e' s'' => R (.error e') s'') s') s :=
  law_all w p loose mean mg mb g L f cd S ws dl k1 k2 s _ R F N hL c1 c2 B X T hS hI hlen hret
end
end Mine
namespace Mine
theorem fill_Fin : K = K ∧ PySem.Challenge.rw_sn0097_01 = PySem.Challenge.rw_sn0097_01 := by k_fill; exact ⟨rfl, rfl⟩
set_option maxHeartbeats 8000000 in
theorem holds0 : PySem.Challenge.rw_sn0097_01.Holds := by
  w_on
  refine holds_law said0 fun said => ?_
  refine holds_open (q := qv) (loose := looseL) (Xt := fun s => xlAt qv lvL s && recOk [] s) (XP := XL qv lvL) (Yf := Hook.obs H) (Ya := Hook.val H) (YP := Hook.says H) (N := 28710) left0 (Hook.of H) (Hook.keeps H) (fun s e => xl_of s (Bool.and_eq_true_iff.mp e).1) XL.keeps (by rfl) (by rfl) (by rfl) (fun s e => recFacts_of (Bool.and_eq_true_iff.mp e).2) (by rfl) (by assumption) (by decide +kernel) ⟨rfl, rfl, rfl, rfl, rfl, by decide +kernel⟩ ?hw ?hc
  case hw => w_witness2
  case hc =>
    intro w s₀ s₁ mg mb G Y fa o pm cd doc dV kV ho hd hcd hD hmg hg args vals as hpre hlay hrd hwl hlo
    have KX := km_in_of Y
    km_tabs Y
    have X := (Ground.X G).1
    have V := (Ground.X G).2
    refine Ground.open G ?_
    intro T B D TE TW
    try (refine guard_noD D (by decide +kernel) ?_; clear D)
    km_lay T hmg ho hd cd
    clear hmg
    wrow_args hpre hlay hrd hwl hlo
    refine enter_call ?_
    w_top on
    kn_posts
    w_call any ho hd hcd hD T F
    clear hd
    kn_ghosts F T
    k_drop
    change wpAny (model pgm w) (callerA.deeper (envOfC (Str.ofString "law") lawScope _ _ _)) (execs lawBody (envOfC (Str.ofString "law") lawScope _ _ _)) _ _ _
    refine' law_done w _ _ _ _ _ _ _ _ _ _ _ _ _ _ _ (fun r s' => GoodW _ (classAt s₀.heap) (ExcName.means s₀.heap) _ _ r s' ∧ GrownAll [(55, 51), (48, 44)] s'.heap) ?lwF ?lwN ?lwL ?lwA ?lwB ?lwW ?lwX ?lwT ?lwS ?lwI ?lwZ ?lwR
    case lwN => with_reducible assumption
    case lwL => assumption
    case lwA => assumption
    case lwB => assumption
    case lwW => with_reducible assumption
    case lwX => with_reducible assumption
    case lwT => with_reducible assumption
    case lwS => with_reducible assumption
    case lwI => with_reducible assumption
    case lwZ => assumption
    case lwF => assumption
    case lwR =>
      intro h' tk' m' p1 p2 F' N'
      k_steps
end Mine
theorem PySem.Challenge.cw_sn0097_01_holds : PySem.Challenge.rw_sn0097_01.Holds :=
  Mine.holds0
