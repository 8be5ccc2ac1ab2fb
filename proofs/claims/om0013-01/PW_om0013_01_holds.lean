import PyProof.Rows.All
import Wide.All
import OpenK.AllK
import Wide.FinOn
import PySem.Challenge.RW_om0013_01
open PySem PySem.Spec PySem.W PySem.Calls PyProof.Rows
set_option Elab.async false
set_option maxRecDepth 100000
set_option maxHeartbeats 8000000
set_option linter.unusedSimpArgs false
set_option linter.unusedVariables false
namespace Mine
/-! the written part of the heap behind the text's top: each object by reference to the row's program -/
noncomputable def sAt (i : Nat) : Option Stmt := PySem.Challenge.pw_om0013_01.main.body[i]?
noncomputable def mkFn (pm : Str) (t : Tok) (cd : Addr) (dV kV : Value) (i : Nat) {nm : Str} {args : Arguments} {body : List Stmt} {ds : List Expr} {rt : Option Expr} {tp : List TypeParam} {sc : Scope} {ts : Option Scope} {bd : Str} {pos : Pos}
    (_ : sAt i = some (.FunctionDef nm args body ds rt tp sc ts bd pos)) : Obj :=
  { cls := .type "function", data := .func { name := nm, qualname := nm, params := args, body := .stmts body, scope := sc, globals := 3, closure := [], defaults := dV, kwdefaults := kV, pyModule := .str pm t, code := .ref cd } }
noncomputable def codeO (nm : Str) (t : Tok) (ln na np nk fl : Int) (v : Addr) (x y z : Value) (t' : Tok) : Obj :=
  { cls := .type "code", data := .fields #[.str nm t, .str nm (t + 1), .str "/claim/cut.py" (t + 2), .int ln 0, .int na 0, .int np 0, .int nk 0, .int fl 0, .ref v, .bool true, .int 181 0, .ref (v + 1), .none, x, y, z, .int t' 0, .int ln 0, .str "/claim/cut.py" (t' + 1)] }
noncomputable def tupO (vs : List Value) : Obj := { cls := .type "tuple", data := .seq vs.toArray 0 }
noncomputable def ent (P : Params) (nm : Str) (t : Tok) (v : Value) : DictEntry := ⟨PyData.keyHash P nm, .str nm t, v⟩
noncomputable def signs : Array UInt8 := #[65, 66, 67, 68, 69, 70, 71, 72, 73, 74, 75, 76, 77, 78, 79, 80, 81, 82, 83, 84, 85, 86, 87, 88, 89, 90, 97, 98, 99, 100, 101, 102, 103, 104, 105, 106, 107, 108, 109, 110, 111, 112, 113, 114, 115, 116, 117, 118, 119, 120, 121, 122, 48, 49, 50, 51, 52, 53, 54, 55, 56, 57, 43, 47]
noncomputable def ob28 : Obj := mkFn "cpy313.stat" 194 27 .none .none 2 rfl
noncomputable def ob35 : Obj := mkFn "cpy313.stat" 194 34 .none .none 3 rfl
noncomputable def ob75 : Obj := mkFn "cpy313.stat" 194 74 .none .none 24 rfl
noncomputable def ob82 : Obj := mkFn "cpy313.operator" 286 81 .none .none 26 rfl
noncomputable def ob89 : Obj := mkFn "cpy313.operator" 286 88 .none .none 27 rfl
noncomputable def ob96 : Obj := mkFn "cpy313.operator" 286 95 .none .none 28 rfl
noncomputable def ob103 : Obj := mkFn "cpy313.operator" 286 102 .none .none 29 rfl
noncomputable def ob110 : Obj := mkFn "cpy313.operator" 286 109 .none .none 30 rfl
noncomputable def ob117 : Obj := mkFn "binascii" 328 116 .none .none 32 rfl
noncomputable def ob124 : Obj := mkFn "binascii" 328 123 .none .none 33 rfl
noncomputable def ob132 : Obj := mkFn "binascii" 328 131 .none (.ref 125) 35 rfl
noncomputable def ob140 : Obj := mkFn "cpy313.base64" 362 139 (.ref 133) .none 37 rfl
noncomputable def ob147 : Obj := mkFn "law_om0013_01" 373 146 .none .none 40 rfl
noncomputable def ob152 : Obj := mkFn "law_om0013_01" 373 151 .none .none 41 rfl
noncomputable def ob157 : Obj := mkFn "law_om0013_01" 373 156 .none .none 42 rfl
noncomputable def ob164 : Obj := mkFn "law_om0013_01" 373 163 .none .none 43 rfl
noncomputable def ob171 : Obj := mkFn "law_om0013_01" 373 170 .none .none 44 rfl
noncomputable def ob176 : Obj := mkFn "law_om0013_01" 373 175 .none .none 45 rfl
noncomputable def ob183 : Obj := mkFn "law_om0013_01" 373 182 .none .none 46 rfl
noncomputable def ob190 : Obj := mkFn "law_om0013_01" 373 189 .none .none 47 rfl
noncomputable def ob197 : Obj := mkFn "law_om0013_01" 373 196 .none .none 48 rfl
noncomputable def ob204 : Obj := mkFn "law_om0013_01" 373 203 .none .none 49 rfl
noncomputable def ob209 : Obj := mkFn "law_om0013_01" 373 208 .none .none 50 rfl
noncomputable def ob214 : Obj := mkFn "law_om0013_01" 373 213 .none .none 51 rfl
noncomputable def KK : Params → Frag := fun P =>
  (nat_lit 2, { cls := .none, data := .dict #[] 0 }) ::
  (nat_lit 3, { cls := .type "dict", data := .dict #[ent P "__name__" 165 (.str "law_om0013_01" 373), ent P "__doc__" 166 .none, ent P "__package__" 167 .none, ent P "__loader__" 168 (.builtin "__main__.__loader__#opaque"), ent P "__spec__" 169 .none, ent P "__annotations__" 170 (.ref 6), ent P "__builtins__" 171 (.ref 4), ent P "__file__" 173 (.str "/claim/cut.py" 172), ent P "__cached__" 174 .none, ent P "_wall" 193 (.ref 21), ent P "S_IMODE" 202 (.ref 28), ent P "S_IFMT" 209 (.ref 35), ent P "S_IFDIR" 211 (.int 16384 210), ent P "S_IFCHR" 213 (.int 8192 212), ent P "S_IFBLK" 215 (.int 24576 214), ent P "S_IFREG" 217 (.int 32768 216), ent P "S_IFIFO" 219 (.int 4096 218), ent P "S_IFLNK" 221 (.int 40960 220), ent P "S_IFSOCK" 223 (.int 49152 222), ent P "S_ISUID" 225 (.int 2048 224), ent P "S_ISGID" 227 (.int 1024 226), ent P "S_ISVTX" 229 (.int 512 228), ent P "S_IRUSR" 231 (.int 256 230), ent P "S_IWUSR" 233 (.int 128 232), ent P "S_IXUSR" 235 (.int 64 234), ent P "S_IRGRP" 237 (.int 32 236), ent P "S_IWGRP" 239 (.int 16 238), ent P "S_IXGRP" 241 (.int 8 240), ent P "S_IROTH" 243 (.int 4 242), ent P "S_IWOTH" 245 (.int 2 244), ent P "S_IXOTH" 247 (.int 1 246), ent P "_filemode_table" 273 (.ref 68), ent P "filemode" 285 (.ref 75), ent P "lshift" 295 (.ref 82), ent P "or_" 303 (.ref 89), ent P "rshift" 311 (.ref 96), ent P "xor" 319 (.ref 103), ent P "getitem" 327 (.ref 110), ent P "_buffer" 337 (.ref 117), ent P "_truth" 345 (.ref 124), ent P "_B64" 347 (.bytes signs 346), ent P "b2a_base64" 361 (.ref 132), ent P "b64encode" 372 (.ref 140), ent P "_law_signs" 376 (.bytes signs 375), ent P "_law_listing" 387 (.ref 147), ent P "_law_octets" 393 (.ref 152), ent P "_law_text" 399 (.ref 157), ent P "_law_rest" 409 (.ref 164), ent P "_law_blind" 419 (.ref 171), ent P "_law_odd" 425 (.ref 176), ent P "_law_damages" 436 (.ref 183), ent P "_law_run" 448 (.ref 190), ent P "_law_written" 456 (.ref 197), ent P "_law_shown" 468 (.ref 204), ent P "_law_rights" 474 (.ref 209), ent P "law" 480 (.ref 214)] 56 }) ::
  (nat_lit 27, codeO "S_IMODE" 196 5 1 0 0 3 22 (.ref 24) (.ref 25) (.ref 26) 200) ::
  (nat_lit 28, ob28) ::
  (nat_lit 34, codeO "S_IFMT" 203 7 1 0 0 3 29 (.ref 31) (.ref 32) (.ref 33) 207) ::
  (nat_lit 35, ob35) ::
  (nat_lit 36, tupO [.int 40960 220, .str "l" 248]) ::
  (nat_lit 37, tupO [.int 49152 222, .str "s" 249]) ::
  (nat_lit 38, tupO [.int 32768 216, .str "-" 250]) ::
  (nat_lit 39, tupO [.int 24576 214, .str "b" 251]) ::
  (nat_lit 40, tupO [.int 16384 210, .str "d" 252]) ::
  (nat_lit 41, tupO [.int 8192 212, .str "c" 253]) ::
  (nat_lit 42, tupO [.int 4096 218, .str "p" 254]) ::
  (nat_lit 43, tupO [.ref 36, .ref 37, .ref 38, .ref 39, .ref 40, .ref 41, .ref 42]) ::
  (nat_lit 44, tupO [.int 256 230, .str "r" 255]) ::
  (nat_lit 45, tupO [.ref 44]) ::
  (nat_lit 46, tupO [.int 128 232, .str "w" 256]) ::
  (nat_lit 47, tupO [.ref 46]) ::
  (nat_lit 48, tupO [.int 2112 257, .str "s" 258]) ::
  (nat_lit 49, tupO [.int 2048 224, .str "S" 259]) ::
  (nat_lit 50, tupO [.int 64 234, .str "x" 260]) ::
  (nat_lit 51, tupO [.ref 48, .ref 49, .ref 50]) ::
  (nat_lit 52, tupO [.int 32 236, .str "r" 261]) ::
  (nat_lit 53, tupO [.ref 52]) ::
  (nat_lit 54, tupO [.int 16 238, .str "w" 262]) ::
  (nat_lit 55, tupO [.ref 54]) ::
  (nat_lit 56, tupO [.int 1032 263, .str "s" 264]) ::
  (nat_lit 57, tupO [.int 1024 226, .str "S" 265]) ::
  (nat_lit 58, tupO [.int 8 240, .str "x" 266]) ::
  (nat_lit 59, tupO [.ref 56, .ref 57, .ref 58]) ::
  (nat_lit 60, tupO [.int 4 242, .str "r" 267]) ::
  (nat_lit 61, tupO [.ref 60]) ::
  (nat_lit 62, tupO [.int 2 244, .str "w" 268]) ::
  (nat_lit 63, tupO [.ref 62]) ::
  (nat_lit 64, tupO [.int 513 269, .str "t" 270]) ::
  (nat_lit 65, tupO [.int 512 228, .str "T" 271]) ::
  (nat_lit 66, tupO [.int 1 246, .str "x" 272]) ::
  (nat_lit 67, tupO [.ref 64, .ref 65, .ref 66]) ::
  (nat_lit 68, tupO [.ref 43, .ref 45, .ref 47, .ref 51, .ref 53, .ref 55, .ref 59, .ref 61, .ref 63, .ref 67]) ::
  (nat_lit 74, codeO "filemode" 274 29 1 0 0 3 69 (.ref 71) (.ref 72) (.ref 73) 283) ::
  (nat_lit 75, ob75) ::
  (nat_lit 81, codeO "lshift" 288 47 2 0 0 3 76 (.ref 78) (.ref 79) (.ref 80) 293) ::
  (nat_lit 82, ob82) ::
  (nat_lit 88, codeO "or_" 296 49 2 0 0 3 83 (.ref 85) (.ref 86) (.ref 87) 301) ::
  (nat_lit 89, ob89) ::
  (nat_lit 95, codeO "rshift" 304 51 2 0 0 3 90 (.ref 92) (.ref 93) (.ref 94) 309) ::
  (nat_lit 96, ob96) ::
  (nat_lit 102, codeO "xor" 312 53 2 0 0 3 97 (.ref 99) (.ref 100) (.ref 101) 317) ::
  (nat_lit 103, ob103) ::
  (nat_lit 109, codeO "getitem" 320 55 2 0 0 3 104 (.ref 106) (.ref 107) (.ref 108) 325) ::
  (nat_lit 110, ob110) ::
  (nat_lit 116, codeO "_buffer" 330 58 1 0 0 3 111 (.ref 113) (.ref 114) (.ref 115) 335) ::
  (nat_lit 117, ob117) ::
  (nat_lit 123, codeO "_truth" 338 65 1 0 0 3 118 (.ref 120) (.ref 121) (.ref 122) 343) ::
  (nat_lit 124, ob124) ::
  (nat_lit 125, { cls := .type "dict", data := .dict #[ent P "newline" 348 (.bool true)] 1 }) ::
  (nat_lit 131, codeO "b2a_base64" 349 71 1 1 1 3 126 (.ref 128) (.ref 129) (.ref 130) 359) ::
  (nat_lit 132, ob132) ::
  (nat_lit 133, tupO [.none]) ::
  (nat_lit 139, codeO "b64encode" 364 94 2 0 0 3 134 (.ref 136) (.ref 137) (.ref 138) 370) ::
  (nat_lit 140, ob140) ::
  (nat_lit 146, codeO "_law_listing" 377 102 1 0 0 3 141 (.ref 143) (.ref 144) (.ref 145) 385) ::
  (nat_lit 147, ob147) ::
  (nat_lit 151, codeO "_law_octets" 388 109 1 0 0 3 148 (.none) (.none) (.ref 150) 391) ::
  (nat_lit 152, ob152) ::
  (nat_lit 156, codeO "_law_text" 394 111 1 0 0 3 153 (.none) (.none) (.ref 155) 397) ::
  (nat_lit 157, ob157) ::
  (nat_lit 163, codeO "_law_rest" 400 113 1 0 0 3 158 (.ref 160) (.ref 161) (.ref 162) 407) ::
  (nat_lit 164, ob164) ::
  (nat_lit 170, codeO "_law_blind" 410 125 1 0 0 3 165 (.ref 167) (.ref 168) (.ref 169) 417) ::
  (nat_lit 171, ob171) ::
  (nat_lit 175, codeO "_law_odd" 420 135 1 0 0 3 172 (.none) (.none) (.ref 174) 423) ::
  (nat_lit 176, ob176) ::
  (nat_lit 182, codeO "_law_damages" 426 138 2 0 0 3 177 (.ref 179) (.ref 180) (.ref 181) 434) ::
  (nat_lit 183, ob183) ::
  (nat_lit 189, codeO "_law_run" 437 143 2 0 0 3 184 (.ref 186) (.ref 187) (.ref 188) 446) ::
  (nat_lit 190, ob190) ::
  (nat_lit 196, codeO "_law_written" 449 153 1 0 0 3 191 (.ref 193) (.ref 194) (.ref 195) 454) ::
  (nat_lit 197, ob197) ::
  (nat_lit 203, codeO "_law_shown" 457 158 3 0 0 3 198 (.ref 200) (.ref 201) (.ref 202) 466) ::
  (nat_lit 204, ob204) ::
  (nat_lit 208, codeO "_law_rights" 469 166 1 0 0 3 205 (.none) (.none) (.ref 207) 472) ::
  (nat_lit 209, ob209) ::
  (nat_lit 213, codeO "law" 475 169 1 0 0 3 210 (.none) (.none) (.ref 212) 478) ::
  (nat_lit 214, ob214) ::
  []
noncomputable def addrs : List Addr := [2, 3, 27, 28, 34, 35, 36, 37, 38, 39, 40, 41, 42, 43, 44, 45, 46, 47, 48, 49, 50, 51, 52, 53, 54, 55, 56, 57, 58, 59, 60, 61, 62, 63, 64, 65, 66, 67, 68, 74, 75, 81, 82, 88, 89, 95, 96, 102, 103, 109, 110, 116, 117, 123, 124, 125, 131, 132, 133, 139, 140, 146, 147, 151, 152, 156, 157, 163, 164, 170, 171, 175, 176, 182, 183, 189, 190, 196, 197, 203, 204, 208, 209, 213, 214]
/-- of the text's lines the walk asks for the law's own alone: all else is read off the written heap -/
noncomputable def view : Program := PySem.W.view PySem.Challenge.pw_om0013_01 [51]
noncomputable def loose : List Str := [Str.ofString "_wall", Str.ofString "S_IMODE", Str.ofString "S_IFMT", Str.ofString "S_IFDIR", Str.ofString "S_IFCHR", Str.ofString "S_IFBLK", Str.ofString "S_IFREG", Str.ofString "S_IFIFO", Str.ofString "S_IFLNK", Str.ofString "S_IFSOCK", Str.ofString "S_ISUID", Str.ofString "S_ISGID", Str.ofString "S_ISVTX", Str.ofString "S_IRUSR", Str.ofString "S_IWUSR", Str.ofString "S_IXUSR", Str.ofString "S_IRGRP", Str.ofString "S_IWGRP", Str.ofString "S_IXGRP", Str.ofString "S_IROTH", Str.ofString "S_IWOTH", Str.ofString "S_IXOTH", Str.ofString "_filemode_table", Str.ofString "filemode", Str.ofString "lshift", Str.ofString "or_", Str.ofString "rshift", Str.ofString "xor", Str.ofString "getitem", Str.ofString "_buffer", Str.ofString "_truth", Str.ofString "_B64", Str.ofString "b2a_base64", Str.ofString "b64encode", Str.ofString "_law_signs", Str.ofString "_law_listing", Str.ofString "_law_octets", Str.ofString "_law_text", Str.ofString "_law_rest", Str.ofString "_law_blind", Str.ofString "_law_odd", Str.ofString "_law_damages", Str.ofString "_law_run", Str.ofString "_law_written", Str.ofString "_law_shown", Str.ofString "_law_rights"]
theorem addrs_eq (P : Params) : addrs = (KK P).map (·.1) := by kernel_rfl
noncomputable abbrev hook : Hook := kHook KK addrs addrs_eq
noncomputable abbrev rowW : RowW := PySem.Challenge.rw_om0013_01.row.toRowW
theorem left : LeftO rowW.prog view loose (fun s => xlAt view [] s && recOk (RowW.records rowW) s) hook.obs hook.val 2438 := by
  intro w
  kernel_rfl
noncomputable abbrev Pg : Program := PySem.Challenge.rw_om0013_01.row.prog
/-- every object of the first heap stands in the second -/
noncomputable abbrev Kp (g h : Heap) : Prop := ∀ b o, g.get? b = some o → h.get? b = some o
/-- a call that changes no object that stood, whatever the caller's frame -/
noncomputable def Pure (w : World) (k : Nat) (f : Addr) (vs : List Value) (kw : List (Str × Value)) (pre : Heap → Prop) (R : Tok → Value) : Prop :=
  ∀ (p : Program) (loose : List Str) (mean : ExcName → Option Value) (mg mb : Str → Option Value) (dp un : Nat) (gd : Option (List Code)) (cn : Str) (cs : Scope) (a : Addr) (ccd : Value) (cl : List (Str × Addr)) (outer : List Env) (A₀ : Around) (base h₀ : Heap) (L : Addr) (m : Str → Option Value) (s : Shared) (Q E : Value → Shared → Prop),
    Below A₀ base outer h₀ → Fr h₀ L s.heap m → (KK w.params).In h₀ → Top p loose mean mg mb h₀ → cs.kind = .function → pre s.heap → dp + k < recursionLimit → un + 8 * k < cLine →
    (∀ (t : Tok) (h' : Heap) (tk' : Nat), Kp s.heap h' → Q (R t) { s with heap := h', toks := tk' }) →
    wpAny (model Pg w) (ktrTop dp un gd cn cs L a ccd cl outer) (call (.ref f) vs kw) Q E s
theorem Pure.use {w : World} {k : Nat} {f : Addr} {vs : List Value} {kw : List (Str × Value)} {pre : Heap → Prop} {R : Tok → Value} (P : Pure w k f vs kw pre R)
    {p : Program} {loose : List Str} {mean : ExcName → Option Value} {mg mb : Str → Option Value} {dp un : Nat} {gd : Option (List Code)} {cn : Str} {cs : Scope} {a : Addr} {ccd : Value} {cl : List (Str × Addr)} {outer : List Env} {A₀ : Around} {base h₀ : Heap} {L : Addr} {m : Str → Option Value} {news : List (Addr × Obj)} {s : Shared} {Q E : Value → Shared → Prop}
    (B : Below A₀ base outer h₀) (F : Fr h₀ L s.heap m) (X : (KK w.params).In h₀) (N : News h₀ L s.heap news) (T : Top p loose mean mg mb h₀) (hk : cs.kind = .function) (hp : pre s.heap) (hdp : dp + k < recursionLimit) (hun : un + 8 * k < cLine)
    (h : ∀ (t : Tok) (h' : Heap) (tk' : Nat), Fr h₀ L h' m → News h₀ L h' news → Q (R t) { s with heap := h', toks := tk' }) :
    wpAny (model Pg w) (ktrTop dp un gd cn cs L a ccd cl outer) (call (.ref f) vs kw) Q E s := by
  refine P p loose mean mg mb dp un gd cn cs a ccd cl outer A₀ base h₀ L m s Q E B F X T hk hp hdp hun fun t h' tk' kp => ?_
  obtain ⟨oL, es, ep, hL, r⟩ := F.ns
  exact h t h' tk' ⟨⟨oL, es, ep, kp _ _ hL, r⟩, fun b o e => kp _ _ (F.keep b o e), F.above⟩ fun p hp => ⟨kp _ _ (N p hp).1, (N p hp).2⟩
section
variable {prog : Program} {w : World} {A A₀ : Around} {s : Shared} {K : Frag} {L : Addr} {h₀ base : Heap} {m mg mb : Str → Option Value} {p : Program} {loose : List Str} {mean : ExcName → Option Value}
theorem enter0 {env : Env} {outer : List Env} {R : Result → Shared → Prop} {name qual : Str} {params : Arguments} {body : List Stmt} {scope : Scope} {dV kV doc pm cdv ct oc : Value} {an od : Option Addr} {osl : Array (Option Value)} {f : Addr} {args : Args} {binds : List (Str × Value)}
    (B : Below A₀ base outer h₀) (F : Fr h₀ L s.heap m) (X₀ : K.In h₀) (T : Top p loose mean mg mb h₀) (hA : A.frames = some (env :: outer)) (hf : env.frame = some L) (hke : env.scope.kind = .function)
    (ho : K.lookup f = some ⟨oc, od, .func (fnOf name qual params body scope dV kV doc pm an cdv ct), osl⟩) (hcd : codeIn K cdv qual = true) (hroom : A.depth < recursionLimit)
    (hbind : BindsTo s (fnOf name qual params body scope dV kV doc pm an cdv ct) args binds) (hloc : ∀ y ∈ binds, scope.names.lookup y.1 = some .local)
    (h : ∀ g L' h₁, Kp s.heap g → Fr g L' h₁ (fun y => binds.reverse.lookup y) → News g L' h₁ [] → Below A base (env :: outer) g → K.In g → Top p loose mean mg mb g →
      wpAny (model prog w) (A.deeper (envOf qual scope L' f cdv)) (execs body (envOf qual scope L' f cdv))
        (fun fl s' => R (.ok (.ret (match fl with | .ret v => v | _ => .none))) s')
        (fun e s' => wpAny (model prog w) (A.deeper (envOf qual scope L' f cdv)) (leaving (envOf qual scope L' f cdv) e) (fun _ s'' => R (.error e) s'') (fun e' s'' => R (.error e') s'') s')
        { s with heap := h₁, toks := s.toks + binds.length })
    (hco : scope.isCoroutine = false) (hgen : scope.isGenerator = false) (hk : scope.kind = .function)
    (hcell : ∀ x ∈ scope.names, x.2 ≠ .cell) : codeAny (model prog w) A (.call (.ref f) args) R s := by
  have X := X₀.keeps F.keep
  obtain ⟨FG, BG, st, lv⟩ := groundX (R := R) B F (News.nil (h₀ := h₀) (L := L) (h := s.heap)) hA hf hke
  refine codeAny_call_def (fd := fnOf name qual params body scope dV kV doc pm an cdv ct) (body := body) (binds := binds) hroom (X _ _ ho) rfl (T.nolimit.keeps F.keep) (codeRec_of X hcd) rfl hbind hcell hloc (fun h₁ hns hk₁ => ?_) hco hgen hk
  exact h s.heap s.heap.objs.size h₁ (fun _ _ e => e) ⟨hns, hk₁, Nat.le_refl _⟩ News.nil BG X (T.keeps F.keep)
theorem enter0C {env : Env} {outer : List Env} {R : Result → Shared → Prop} {name qual : Str} {params : Arguments} {body : List Stmt} {scope : Scope} {dV kV doc pm cdv ct oc : Value} {an od : Option Addr} {osl : Array (Option Value)} {f : Addr} {args : Args} {binds : List (Str × Value)}
    (B : Below A₀ base outer h₀) (F : Fr h₀ L s.heap m) (X₀ : K.In h₀) (T : Top p loose mean mg mb h₀) (hA : A.frames = some (env :: outer)) (hf : env.frame = some L) (hke : env.scope.kind = .function)
    (ho : K.lookup f = some ⟨oc, od, .func (fnOf name qual params body scope dV kV doc pm an cdv ct), osl⟩) (hcd : codeIn K cdv qual = true) (hroom : A.depth < recursionLimit)
    (hbind : BindsTo s (fnOf name qual params body scope dV kV doc pm an cdv ct) args binds) (hkind : (binds.all fun y => scope.names.lookup y.1 == some .local || scope.names.lookup y.1 == some .cell) = true)
    (hnd : ((cellsFrom 0 scope.names []).map (·.1)).Nodup)
    (h : ∀ g L' h₁ tk cells, Kp s.heap g → Fr g L' h₁ (bindL (envOfC qual scope L' f cdv).kindOf binds fun _ => none) → News g L' h₁ cells →
      CellsAre (bindC (envOfC qual scope L' f cdv).kindOf binds fun _ => none) (cellsFrom (L' + 1) scope.names []) cells → Below A base (env :: outer) g → K.In g → Top p loose mean mg mb g →
      wpAny (model prog w) (A.deeper (envOfC qual scope L' f cdv)) (execs body (envOfC qual scope L' f cdv))
        (fun fl s' => R (.ok (.ret (match fl with | .ret v => v | _ => .none))) s')
        (fun e s' => wpAny (model prog w) (A.deeper (envOfC qual scope L' f cdv)) (leaving (envOfC qual scope L' f cdv) e) (fun _ s'' => R (.error e) s'') (fun e' s'' => R (.error e') s'') s')
        { s with heap := h₁, toks := tk })
    (hco : scope.isCoroutine = false) (hgen : scope.isGenerator = false) (hk : scope.kind = .function) : codeAny (model prog w) A (.call (.ref f) args) R s := by
  have X := X₀.keeps F.keep
  obtain ⟨FG, BG, st, lv⟩ := groundX (R := R) B F (News.nil (h₀ := h₀) (L := L) (h := s.heap)) hA hf hke
  refine codeAny_call_function hroom (X _ _ ho) rfl hco hgen rfl (codeRec_of X hcd) (hbind _ _ _ _ ?_)
  refine wpAny_newFunctionEnv_cells hk (kindsX hkind _) fun env' he s' x => ?_
  subst he
  refine ⟨(T.nolimit.keeps F.keep).keeps x.toInCall.keep, codeAny_func ?_⟩
  obtain ⟨h₁, tk, rfl, _⟩ := x.done
  obtain ⟨cells, NC, Y⟩ := Cl.news (h₀ := s.heap) (Nat.le_refl _) fun n c hm => ⟨x.cell n c (lookup_of_mem_nodup (cellsFrom_names scope.names 0 (s.heap.objs.size + 1) [] [] rfl ▸ hnd) hm), x.above n c hm⟩
  exact h s.heap s.heap.objs.size h₁ tk cells (fun _ _ e => e) ⟨x.toInCall.ns, x.toInCall.keep, Nat.le_refl _⟩ NC Y BG X (T.keeps F.keep)
end
section
variable {s : Shared} {g h' : Heap} {L : Addr} {m : Str → Option Value} {Q : Value → Shared → Prop} {t : Tok} {tk : Nat}
theorem end_int {x y : Int} (hret : ∀ (t : Tok) (h' : Heap) (tk' : Nat), Kp s.heap h' → Q (.int x t) { s with heap := h', toks := tk' }) (kp : Kp s.heap g) (F : Fr g L h' m) (e : y = x) : Q (.int y t) { s with heap := h', toks := tk } := by
  subst e; exact hret _ _ _ fun b o q => F.keep b o (kp b o q)
theorem end_int' {f : Tok → Value} {x y : Int} (hret : ∀ (t : Tok) (h' : Heap) (tk' : Nat), Kp s.heap h' → Q (f t) { s with heap := h', toks := tk' }) (kp : Kp s.heap g) (F : Fr g L h' m) (hf : f = fun t => .int x t) (e : y = x) : Q (.int y t) { s with heap := h', toks := tk } := by
  subst hf; exact end_int hret kp F e
theorem end_str {x y : Str} (hret : ∀ (t : Tok) (h' : Heap) (tk' : Nat), Kp s.heap h' → Q (.str x t) { s with heap := h', toks := tk' }) (kp : Kp s.heap g) (F : Fr g L h' m) (e : y = x) : Q (.str y t) { s with heap := h', toks := tk } := by
  subst e; exact hret _ _ _ fun b o q => F.keep b o (kp b o q)
theorem end_bytes' {f : Tok → Value} {x y : Array UInt8} (hret : ∀ (t : Tok) (h' : Heap) (tk' : Nat), Kp s.heap h' → Q (f t) { s with heap := h', toks := tk' }) (kp : Kp s.heap g) (F : Fr g L h' m) (hf : f = fun t => .bytes x t) (e : y = x) : Q (.bytes y t) { s with heap := h', toks := tk } := by
  subst hf; subst e; exact hret _ _ _ fun b o q => F.keep b o (kp b o q)
theorem end_str' {f : Tok → Value} {x y : Str} (hret : ∀ (t : Tok) (h' : Heap) (tk' : Nat), Kp s.heap h' → Q (f t) { s with heap := h', toks := tk' }) (kp : Kp s.heap g) (F : Fr g L h' m) (hf : f = fun t => .str x t) (e : y = x) : Q (.str y t) { s with heap := h', toks := tk } := by
  subst hf; subst e; exact hret _ _ _ fun b o q => F.keep b o (kp b o q)
theorem end_bytes {x y : Array UInt8} (hret : ∀ (t : Tok) (h' : Heap) (tk' : Nat), Kp s.heap h' → Q (.bytes x t) { s with heap := h', toks := tk' }) (kp : Kp s.heap g) (F : Fr g L h' m) (e : y = x) : Q (.bytes y t) { s with heap := h', toks := tk } := by
  subst e; exact hret _ _ _ fun b o q => F.keep b o (kp b o q)
end
theorem toks_gen {M : Model} {A : Around} {α : Type} {t : Sem α} {Q : α → Shared → Prop} {E : Value → Shared → Prop} {h : Heap} {g : Array GenState} {d : Drawn} {os : OsState} {X : Nat} (H : ∀ tk, wpAny M A t Q E ⟨h, g, d, tk, os⟩) : wpAny M A t Q E ⟨h, g, d, X, os⟩ := H X
local macro_rules | `(tactic| k_room) => `(tactic| ktr_room)
/-- the library's while rule under a name of its own, so that the walk leaves a turn's end to the hand -/
noncomputable def MPost {σ : Type} (h₀ : Heap) (L : Addr) (s : Shared) (Led : σ → List (Addr × Obj)) (ps : σ → List (Str × Value)) (stored : List Str) (m₀ : Str → Option Value) (P : σ → Prop) (μ : σ → Nat) (Q : Flow → Shared → Prop) (c : σ) (f : Flow) (s₂ : Shared) : Prop :=
  KswPost h₀ L s Led ps (fun _ => True) stored m₀ P μ Q c f s₂
theorem mwhile {prog : Program} {w : World} {A : Around} {E : Value → Shared → Prop} {Q : Flow → Shared → Prop} {s : Shared} {env : Env} {h₀ : Heap} {L : Addr} {σ : Type} {test : Expr} {body : List Stmt} {pos : Pos} {m₀ : Str → Option Value} (Led : σ → List (Addr × Obj)) (ps : σ → List (Str × Value)) (stored : List Str) (P : σ → Prop) (μ : σ → Nat) (c₀ : σ)
    (F : Fr h₀ L s.heap m₀) (N : News h₀ L s.heap (Led c₀)) (hk : ∀ p ∈ ps c₀, m₀ p.1 = some p.2) (hp : P c₀)
    (turn : ∀ (c : σ) (u : Str → Option Value) h tk (QB : Flow → Shared → Prop), (∀ f s', MPost h₀ L s Led ps stored m₀ P μ Q c f s' → QB f s') → P c → Fr h₀ L h (kstB (fun z => if stored.contains z then u z else m₀ z) (ps c)) → News h₀ L h (Led c) →
      wpAny (model prog w) A (isTrue test env (eval test env)) (fun b s₂ =>
        if b = true then wpAny (model prog w) A (execs body env) QB E s₂ else Q .next s₂) E { s with heap := h, toks := tk })
    (hE : PassesOwn (model prog w) A env E := by passes_own) :
    wpAny (model prog w) A (exec (.While test body [] pos) env) Q E s :=
  ksw_while Led ps (fun _ => True) stored P μ c₀ F N trivial hk hp (fun c u h tk _ => turn c u h tk _ fun _ _ x => x) hE
theorem mwhile_end {σ : Type} {h₀ : Heap} {L : Addr} {s : Shared} {Led : σ → List (Addr × Obj)} {ps : σ → List (Str × Value)} {stored : List Str} {m₀ m' : Str → Option Value} {P : σ → Prop} {μ : σ → Nat} {Q : Flow → Shared → Prop} {c : σ} {h' : Heap} {tk : Nat} (c' : σ)
    (F : Fr h₀ L h' m') (N : News h₀ L h' (Led c')) (hk : ∀ p ∈ ps c', m' p.1 = some p.2) (hr : ∀ z, (∀ p ∈ ps c', z ≠ p.1) → stored.contains z = false → m' z = m₀ z) (hp : P c') (hm : μ c' < μ c) :
    MPost h₀ L s Led ps stored m₀ P μ Q c .next { s with heap := h', toks := tk } := ksw_end c' F N (fun _ h => h) trivial hk hr hp hm
theorem add_xor_and (a : Nat) : ∀ b : Nat, a + b = (a ^^^ b) + 2 * (a &&& b) := by
  induction a using Nat.strongRecOn with
  | ind a ih =>
    intro b
    by_cases ha : a = 0
    · subst ha; simp
    · have h := ih (a / 2) (by omega) (b / 2)
      have e1 : (a ^^^ b) / 2 = (a / 2) ^^^ (b / 2) := by
        have := Nat.shiftRight_xor_distrib (a := a) (b := b) (i := 1); simpa [Nat.shiftRight_eq_div_pow] using this
      have e2 : (a &&& b) / 2 = (a / 2) &&& (b / 2) := by
        have := Nat.shiftRight_and_distrib (a := a) (b := b) (i := 1); simpa [Nat.shiftRight_eq_div_pow] using this
      have m1 : (a ^^^ b) % 2 = (a % 2 + b % 2) % 2 := by
        have := Nat.xor_mod_two_pow (a := a) (b := b) (n := 1)
        simp only [Nat.pow_one] at this
        rw [this]
        rcases Nat.mod_two_eq_zero_or_one a with x | x <;> rcases Nat.mod_two_eq_zero_or_one b with y | y <;> simp [x, y]
      have m2 : (a &&& b) % 2 = (a % 2) * (b % 2) := by
        have := Nat.and_mod_two_pow (a := a) (b := b) (n := 1)
        simp only [Nat.pow_one] at this
        rw [this]
        rcases Nat.mod_two_eq_zero_or_one a with x | x <;> rcases Nat.mod_two_eq_zero_or_one b with y | y <;> simp [x, y]
      rw [← e1, ← e2] at h
      have hpq : a % 2 + b % 2 = (a % 2 + b % 2) % 2 + 2 * ((a % 2) * (b % 2)) := by
        rcases Nat.mod_two_eq_zero_or_one a with x | x <;> rcases Nat.mod_two_eq_zero_or_one b with y | y <;> rw [x, y]
      rw [← m1, ← m2] at hpq
      have d1 := Nat.div_add_mod a 2
      have d2 := Nat.div_add_mod b 2
      have d3 := Nat.div_add_mod (a ^^^ b) 2
      have d4 := Nat.div_add_mod (a &&& b) 2
      clear m1 m2 e1 e2 ih ha
      generalize a / 2 = a', b / 2 = b', a % 2 = p, b % 2 = q, (a ^^^ b) / 2 = x', (a &&& b) / 2 = y', (a ^^^ b) % 2 = x, (a &&& b) % 2 = y at *
      omega
theorem ba (a b : Nat) : Builtin.bitAnd (a : Int) (b : Int) = ((a &&& b : Nat) : Int) := by
  unfold Builtin.bitAnd; simp
theorem bx (a b : Nat) : Builtin.bitXor (a : Int) (b : Int) = ((a ^^^ b : Nat) : Int) := by
  have := bitXor_and (a : Int) (b : Int)
  rw [this, ba]
  have := add_xor_and a b
  omega
theorem bo (a b : Nat) : Builtin.bitOr (a : Int) (b : Int) = ((a ||| b : Nat) : Int) := by
  have h : Builtin.bitXor (a : Int) (b : Int) = Builtin.bitOr (a : Int) (b : Int) - Builtin.bitAnd (a : Int) (b : Int) := rfl
  rw [bx, ba] at h
  have e : (a ||| b) = (a ^^^ b) + (a &&& b) := by
    have h1 := add_xor_and (a ^^^ b) (a &&& b)
    have h2 : (a ^^^ b) &&& (a &&& b) = 0 := by
      apply Nat.eq_of_testBit_eq; intro i; simp only [Nat.testBit_and, Nat.testBit_xor, Nat.zero_testBit]; cases a.testBit i <;> cases b.testBit i <;> rfl
    have h3 : (a ^^^ b) ^^^ (a &&& b) = a ||| b := by
      apply Nat.eq_of_testBit_eq; intro i; simp only [Nat.testBit_and, Nat.testBit_xor, Nat.testBit_or]; cases a.testBit i <;> cases b.testBit i <;> rfl
    rw [h2, h3] at h1; omega
  omega
theorem and_bit (R k : Nat) : R &&& 2 ^ k = if R / 2 ^ k % 2 = 1 then 2 ^ k else 0 := by
  have e : R.testBit k = decide (R / 2 ^ k % 2 = 1) := by rw [Nat.testBit_eq_decide_div_mod_eq]
  apply Nat.eq_of_testBit_eq; intro i
  rw [Nat.testBit_and]
  by_cases hi : k = i
  · subst hi
    rw [Nat.testBit_two_pow_self, e]
    by_cases h : R / 2 ^ k % 2 = 1
    · rw [if_pos h, Nat.testBit_two_pow_self]; simp [h]
    · rw [if_neg h, Nat.zero_testBit]; simp [h]
  · rw [Nat.testBit_two_pow_of_ne hi, Bool.and_false]
    split
    · rw [Nat.testBit_two_pow_of_ne hi]
    · rw [Nat.zero_testBit]
/-- a source whose walk is known: n items, the i-th one as P says -/
noncomputable def Src (prog : Program) (w : World) (A : Around) (xv : Value) (s₁ : Shared) (n : Nat) (P : Nat → Value → Prop) : Prop :=
  ∀ (Q : Value → Shared → Prop) (E : Value → Shared → Prop),
    (∀ (o : Obj) (fp : List Addr) (St : Nat → Heap → Prop), (∀ b ∈ fp, b ≤ s₁.heap.objs.size) → Walks prog w A s₁.heap.objs.size fp [s₁.heap.objs.size] n P St → St 0 (s₁.heap.push o) → Q (.ref s₁.heap.objs.size) { s₁ with heap := s₁.heap.push o }) →
    wpAny (model prog w) A (pyIter xv) Q E s₁
section
variable {prog : Program} {w : World} {A : Around} {E : Value → Shared → Prop} {env : Env} {g : Heap} {L : Addr} {m : Str → Option Value}
theorem Src.tuple {s₁ : Shared} {ax : Addr} {its : Array Value} (hh : A.handled = none) (ht : s₁.heap.IsTuple ax its) : Src prog w A (.ref ax) s₁ its.size (fun i v => its[i]? = some v) := by
  intro Q E h
  have hlt : ax < s₁.heap.objs.size := by obtain ⟨_, e, _⟩ := ht; exact Heap.lt_size e
  refine wpAny_pyIter_tuple ht (h _ [s₁.heap.objs.size, ax] _ ?_ (Walks.tuple hh s₁.heap.objs.size ax (Nat.ne_of_lt hlt) its) ⟨⟨_, Heap.get?_push_size _ rfl, rfl, rfl⟩, ?_⟩)
  · intro b hb
    rcases List.mem_cons.mp hb with rfl | hb
    · exact Nat.le_refl _
    · rw [List.mem_singleton.mp hb]; exact Nat.le_of_lt hlt
  · obtain ⟨o, e, r⟩ := ht
    exact ⟨o, Heap.get?_push_of_some _ e, r⟩
theorem Src.list {s₁ : Shared} {ax : Addr} {its : Array Value} (hh : A.handled = none) (ht : s₁.heap.IsList ax its) : Src prog w A (.ref ax) s₁ its.size (fun i v => its[i]? = some v) := by
  intro Q E h
  have hlt : ax < s₁.heap.objs.size := by obtain ⟨_, e, _⟩ := ht; exact Heap.lt_size e
  refine wpAny_pyIter_list ht (h _ [s₁.heap.objs.size, ax] _ ?_ (Walks.list hh s₁.heap.objs.size ax (Nat.ne_of_lt hlt) its) ⟨⟨_, Heap.get?_push_size _ rfl, rfl, rfl⟩, ?_⟩)
  · intro b hb
    rcases List.mem_cons.mp hb with rfl | hb
    · exact Nat.le_refl _
    · rw [List.mem_singleton.mp hb]; exact Nat.le_of_lt hlt
  · exact ht.push _
/-- what an element of a comprehension may lean on -/
noncomputable def EltCtx (g : Heap) (L : Addr) (m : Str → Option Value) (news : List (Addr × Obj)) (x : Str) (v : Value) (C : Addr) (oC : Obj) (m₂ : Str → Option Value) (s₃ : Shared) : Prop :=
  LCg.NsObj oC m₂ ∧ m₂ x = some v ∧ Fr g L s₃.heap m ∧ News g L s₃.heap ((C, oC) :: news)
noncomputable def TestEnd (p : Value → Bool) (v : Value) (s₃ : Shared) (ok : Bool) (s₄ : Shared) : Prop := ok = p v ∧ Keeps s₃ s₄
noncomputable def EltEnd (Fv : Value → Value → Prop) (v : Value) (s₃ : Shared) (y : Value) (s₄ : Shared) : Prop := Fv v y ∧ Keeps s₃ s₄
/-- the source's end and what is asked of the elements: a name, so that the walk stops here -/
noncomputable def CompAt (prog : Program) (w : World) (A : Around) (env : Env) (g : Heap) (L : Addr) (m : Str → Option Value) (elt : Expr) (x : Str) (ifs : List Expr) (scope : Scope) (cl : List (Str × Addr)) (p : Value → Bool) (Fv : Value → Value → Prop) (Q : Value → Shared → Prop) (xv : Value) (s₁ : Shared) : Prop :=
  ∃ (n : Nat) (P : Nat → Value → Prop) (news : List (Addr × Obj)), Src prog w A xv s₁ n P ∧ Fr g L s₁.heap m ∧ News g L s₁.heap news ∧ n ≤ sizeLine ∧
      (∀ C oC m₂ i v s₃ E', P i v → EltCtx g L m news x v C oC m₂ s₃ →
        wpAny (model prog w) A (forIn ifs true fun c r => if r = true then do let ok ← isTrue c (compEnvC scope cl C env) (eval c (compEnvC scope cl C env)); pure (ForInStep.yield ok) else pure (ForInStep.yield r)) (TestEnd p v s₃) E' s₃) ∧
      (∀ C oC m₂ i v s₃ E', P i v → p v = true → EltCtx g L m news x v C oC m₂ s₃ → wpAny (model prog w) A (eval elt (compEnvC scope cl C env)) (EltEnd Fv v s₃) E' s₃) ∧
      (∀ D h' tk k ys (vs : List Value), vs.length = n → (∀ j v, vs[j]? = some v → P j v) → Paired Fv (vs.filter p) ys → Fr g L h' m → News g L h' ((D, { cls := .type "list", data := .seq ys.toArray k }) :: news) → (∀ q ∈ news, q.1 ≠ D) → Q (.ref D) { s₁ with heap := h', toks := tk })
theorem comp_gen {s : Shared} {elt iter : Expr} {x : Str} {px : Pos} {ifs : List Expr} {scope : Scope} {cl : List (Str × Addr)} {pos : Pos} {Q : Value → Shared → Prop} (p : Value → Bool) (Fv : Value → Value → Prop) (_F₀ : Fr g L s.heap m)
    (hclos : closureFor scope env = pure cl) (hcell : ∀ y ∈ scope.names, y.2 ≠ .cell) (hkind : scope.kind = .function)
    (hnames : ∀ y ∈ scope.names, y.2 = .local → scope.names.lookup y.1 = some .local) (hx : scope.names.lookup x = some .local)
    (h : wpAny (model prog w) A (eval iter env) (fun xv s₁ => CompAt prog w A env g L m elt x ifs scope cl p Fv Q xv s₁) E s)
    (hs : ∀ x, foldedSetIterable iter env x = pure x := by intro _; rfl) :
    wpAny (model prog w) A (eval (.ListComp elt [⟨.Name x px, iter, ifs, 0⟩] scope pos) env) Q E s := by
  refine wpAny_ListComp_free p Fv hclos hcell hkind hnames hx (wpAny_mono h (fun xv s₁ h₁ => ?_) fun _ _ e => e) hs
  obtain ⟨n, P, news, hsrc, F, N, hsz, ht, he, hf⟩ := h₁
  refine hsrc _ _ fun o fp St hfp W hst => ?_
  have hsz1 : (s₁.heap.push o).objs.size = s₁.heap.objs.size + 1 := Heap.size_push _ _
  have up : ∀ b o', s₁.heap.get? b = some o' → (s₁.heap.push o).get? b = some o' := fun b o' e => Heap.get?_push_of_some _ e
  have ctx : ∀ C v s₃ m₃, (s₁.heap.push o).objs.size ≤ C → s₃.heap.Ns C m₃ → m₃ x = some v → (∀ b o', b ∉ [s₁.heap.objs.size] → (s₁.heap.push o).get? b = some o' → s₃.heap.get? b = some o') → ∃ oC, EltCtx g L m news x v C oC m₃ s₃ := by
    intro C v s₃ m₃ hC hn hv hk
    have hk' : ∀ b o', s₁.heap.get? b = some o' → s₃.heap.get? b = some o' := fun b o' e => hk b o' (by simp; exact Nat.ne_of_lt (Heap.lt_size e)) (up b o' e)
    obtain ⟨oC, hoC, hns⟩ := LCg.ns_obj hn
    refine ⟨oC, hns, hv, ?_, ?_⟩
    · obtain ⟨oL, es, ep, hL, r⟩ := F.ns
      exact ⟨⟨oL, es, ep, hk' _ _ hL, r⟩, fun b o e => hk' _ _ (F.keep b o e), F.above⟩
    · intro q hq
      rcases List.mem_cons.mp hq with rfl | hq
      · refine ⟨hoC, ?_, ?_⟩
        · exact Nat.ne_of_gt (Nat.lt_of_lt_of_le F.ns.lt (Nat.le_trans (by rw [hsz1]; exact Nat.le_succ _) hC))
        · show g.get? C = none
          cases e : g.get? C with
          | none => rfl
          | some o' => exact absurd (Nat.lt_of_lt_of_le (Heap.lt_size (F.keep _ _ e)) (Nat.le_trans (by rw [hsz1]; exact Nat.le_succ _) hC)) (Nat.lt_irrefl _)
      · exact ⟨hk' _ _ (N q hq).1, (N q hq).2⟩
  refine ⟨_, fp, [s₁.heap.objs.size], n, P, St, rfl, W, hsz, hst, fun b hb => by show b < (s₁.heap.push o).objs.size; rw [hsz1]; exact Nat.lt_succ_of_le (hfp b hb), ⟨?_, ?_⟩, ?_⟩
  · intro C i v s₃ m₃ E' hC hP hn hv hk _
    obtain ⟨oC, hc⟩ := ctx C v s₃ m₃ hC hn hv hk
    exact ht C oC m₃ i v s₃ E' hP hc
  · intro C i v s₃ m₃ E' hC hP hp hn hv hk _
    obtain ⟨oC, hc⟩ := ctx C v s₃ m₃ hC hn hv hk
    exact he C oC m₃ i v s₃ E' hP hp hc
  · intro D h' tk ys vs hD _ hpl hlen hP hF hk
    have hk' : ∀ b o', s₁.heap.get? b = some o' → h'.get? b = some o' := fun b o' e => hk b o' (by simp; exact Nat.ne_of_lt (Heap.lt_size e)) (up b o' e)
    have hDs : s₁.heap.get? D = none := by
      cases e : s₁.heap.get? D with
      | none => rfl
      | some o' => have := up _ _ e; simp only at hD; rw [hD] at this; cases this
    obtain ⟨oL, es, ep, hL, r⟩ := F.ns
    obtain ⟨k, hDo⟩ := hpl
    refine hf D h' tk k ys.toList vs hlen hP hF ⟨⟨oL, es, ep, hk' _ _ hL, r⟩, fun b o e => hk' _ _ (F.keep b o e), F.above⟩ (fun q hq => ?_) fun q hq e => by rw [← e, (N q hq).1] at hDs; cases hDs
    rcases List.mem_cons.mp hq with rfl | hq
    · refine ⟨by simpa using hDo, fun e => ?_, ?_⟩
      · simp only at e; rw [e, hL] at hDs; cases hDs
      · show g.get? D = none
        cases e : g.get? D with
        | none => rfl
        | some o' => rw [F.keep _ _ e] at hDs; cases hDs
    · exact ⟨hk' _ _ (N q hq).1, (N q hq).2⟩
end
section
variable {prog : Program} {w : World} {A : Around} {E : Value → Shared → Prop} {env : Env} {g : Heap} {L : Addr} {m : Str → Option Value}
theorem Src.range {s₁ : Shared} {r : Addr} {a₀ b₀ : Int} {t₀ u₀ v₀ : Tok} {n : Nat} (hh : A.handled = none) (hr : IsRange s₁.heap r a₀ b₀ 1 t₀ u₀ v₀) (hsmall : Builtin.Range.small a₀ b₀ 1 = true) (hn : Builtin.Range.rangeSize a₀ b₀ 1 = (n : Int)) :
    Src prog w A (.ref r) s₁ n (fun i v => i < n ∧ ∃ t, v = .int (a₀ + i * 1) t) := by
  intro Q E h
  refine wpAny_pyIter_range hr hsmall (h _ [s₁.heap.objs.size] _ (fun b hb => by rw [List.mem_singleton.mp hb]; exact Nat.le_refl _) (Walks.range hh _ a₀ 1 n).bound ?_)
  show IsRangeIter _ _ _ _ _
  rw [hn]; simpa using Heap.get?_push_size _ rfl
/-- what a key or a value of a dict comprehension may lean on -/
noncomputable def DictCtx (g : Heap) (L : Addr) (m : Str → Option Value) (news : List (Addr × Obj)) (x : Str) (v : Value) (C : Addr) (m₂ : Str → Option Value) (s₃ : Shared) : Prop :=
  s₃.heap.Ns C m₂ ∧ m₂ x = some v ∧ Fr g L s₃.heap m ∧ News g L s₃.heap news
noncomputable def KeyEnd {K : Type} [DecidableEq K] (knd : PySem.KeyKind prog w K) (FK : Value → K → Prop) (v : Value) (s₃ : Shared) (key : Value) (s₄ : Shared) : Prop := (∃ k, knd.is k key = true ∧ FK v k) ∧ Keeps s₃ s₄
noncomputable def DictAt {K : Type} [DecidableEq K] (knd : PySem.KeyKind prog w K) (A : Around) (env : Env) (g : Heap) (L : Addr) (m : Str → Option Value) (kx vx : Expr) (x y : Str) (ifs : List Expr) (scope : Scope) (cl : List (Str × Addr)) (p : Value → Bool) (FK : Value → K → Prop) (Fv : Value → Value → Prop) (Q : Flow → Shared → Prop) (xv : Value) (s₁ : Shared) : Prop :=
  ∃ (n : Nat) (P : Nat → Value → Prop) (news : List (Addr × Obj)), Src prog w A xv s₁ n P ∧ Fr g L s₁.heap m ∧ News g L s₁.heap news ∧ n ≤ sizeLine ∧
      (∀ C m₂ i v s₃ E', P i v → DictCtx g L m news x v C m₂ s₃ →
        wpAny (model prog w) A (forIn ifs true fun c r => if r = true then do let ok ← isTrue c (compEnvC scope cl C env) (eval c (compEnvC scope cl C env)); pure (ForInStep.yield ok) else pure (ForInStep.yield r)) (TestEnd p v s₃) E' s₃) ∧
      (∀ C m₂ i v s₃ E', P i v → p v = true → DictCtx g L m news x v C m₂ s₃ → wpAny (model prog w) A (eval kx (compEnvC scope cl C env)) (KeyEnd knd FK v s₃) E' s₃) ∧
      (∀ C m₂ i v s₃ E', P i v → p v = true → DictCtx g L m news x v C m₂ s₃ → wpAny (model prog w) A (eval vx (compEnvC scope cl C env)) (EltEnd Fv v s₃) E' s₃) ∧
      (∀ D oD h' tk kvs (vs : List Value), vs.length = n → (∀ j v, vs[j]? = some v → P j v) → StoredAll FK Fv (vs.filter p) kvs → oD.IsDictOf knd kvs → Fr g L h' (fun z => if z = y then some (.ref D) else m z) → News g L h' ((D, oD) :: news) → (∀ q ∈ news, q.1 ≠ D) → Q .next { s₁ with heap := h', toks := tk })
theorem dict_asgn {K : Type} [DecidableEq K] {s : Shared} {kx vx iter : Expr} {x y : Str} {px py : Pos} {ifs : List Expr} {scope : Scope} {cl : List (Str × Addr)} {pos spos : Pos} {Q : Flow → Shared → Prop} (knd : PySem.KeyKind prog w K) (p : Value → Bool) (FK : Value → K → Prop) (Fv : Value → Value → Prop) (_F₀ : Fr g L s.heap m) (hL : env.locals = L)
    (hsw : swapsWith (.DictComp kx vx [⟨.Name x px, iter, ifs, 0⟩] scope pos) (some (.Name y py)) spos.line env = pure true)
    (hclos : closureFor scope env = pure cl) (hcell : ∀ y ∈ scope.names, y.2 ≠ .cell) (hkind : scope.kind = .function)
    (hnames : ∀ y ∈ scope.names, y.2 = .local → scope.names.lookup y.1 = some .local) (hx : scope.names.lookup x = some .local)
    (hy : env.kindOf y = some .local) (hp : (env.scope.kind == .class || (env.scope.kind == .module && env.locals != env.globals)) = false)
    (h : wpAny (model prog w) A (eval iter env) (fun xv s₁ => DictAt knd A env g L m kx vx x y ifs scope cl p FK Fv Q xv s₁) E s)
    (hs : ∀ x, foldedSetIterable iter env x = pure x := by intro _; rfl) :
    wpAny (model prog w) A (exec (.Assign [.Name y py] (.DictComp kx vx [⟨.Name x px, iter, ifs, 0⟩] scope pos) spos) env) Q E s := by
  subst hL
  rw [exec_Assign_Name_used _ _ _ _ hsw]
  refine wpAny_bind (wpAny_standAt (wpAny_bind ?_))
  show wpAny _ A (do let _ ← comprehension (.DictComp kx vx [⟨.Name x px, iter, ifs, 0⟩] scope pos) scope env _ newDict false (eval iter env) (some (assign (.Name y py) env))) _ _ s
  refine wpAny_bind (wpAny_mono (wpAny_comprehension_free (use := some (assign (.Name y py) env)) (Q := fun _ s' => Q .next s') rfl hs hclos hkind hnames
    (wpAny_mono h (fun xv s₁ h₁ => ?_) fun _ _ e => e)) (fun _ s' hq => wpAny_pure (wpAny_pure hq)) fun _ _ e => e)
  obtain ⟨n, P, news, hsrc, F, N, hsz, ht, hkey, hval, hf⟩ := h₁
  refine hsrc _ _ fun o fp St hfp W hst => ?_
  have hsz1 : (s₁.heap.push o).objs.size = s₁.heap.objs.size + 1 := Heap.size_push _ _
  have up : ∀ b o', s₁.heap.get? b = some o' → (s₁.heap.push o).get? b = some o' := fun b o' e => Heap.get?_push_of_some _ e
  have hLw : env.locals ∉ [s₁.heap.objs.size] := fun hI => absurd F.ns.lt ((List.mem_singleton.mp hI) ▸ Nat.lt_irrefl _)
  have ctx : ∀ C v s₃ m₃, s₃.heap.Ns C m₃ → m₃ x = some v → (∀ b o', b ∉ [s₁.heap.objs.size] → (s₁.heap.push o).get? b = some o' → s₃.heap.get? b = some o') → DictCtx g env.locals m news x v C m₃ s₃ := by
    intro C v s₃ m₃ hn hv hk
    have hk' : ∀ b o', s₁.heap.get? b = some o' → s₃.heap.get? b = some o' := fun b o' e => hk b o' (by simp; exact Nat.ne_of_lt (Heap.lt_size e)) (up b o' e)
    obtain ⟨oL, es, ep, hL, r⟩ := F.ns
    exact ⟨hn, hv, ⟨⟨oL, es, ep, hk' _ _ hL, r⟩, fun b o e => hk' _ _ (F.keep b o e), F.above⟩, fun q hq => ⟨hk' _ _ (N q hq).1, (N q hq).2⟩⟩
  refine comp_block_walkCD (knd := knd) (RR := fun acc C => compPost (model prog w) A E (some (assign (.Name y py) env)) (fun _ s' => Q .next s') acc C) W hsz p FK Fv hcell hkind hx hst (fun b hb => by show b < (s₁.heap.push o).objs.size; rw [hsz1]; exact Nat.lt_succ_of_le (hfp b hb)) ⟨?_, ?_, ?_⟩ ?_
  · intro C i v s₃ m₃ E' hP hn hv hk
    exact ht C m₃ i v s₃ E' hP (ctx C v s₃ m₃ hn hv hk)
  · intro C i v s₃ m₃ E' hP hp hn hv hk
    exact hkey C m₃ i v s₃ E' hP hp (ctx C v s₃ m₃ hn hv hk)
  · intro C i v s₃ m₃ E' hP hp hn hv hk
    exact hval C m₃ i v s₃ E' hP hp (ctx C v s₃ m₃ hn hv hk)
  · intro D C h' tk m' kvs vs hD hC hDC hnC hlD hlen hP hF hk
    have hn : (s₁.heap.push o).Ns env.locals m := F.ns.push _
    have hLC : env.locals ≠ C := by rintro rfl; obtain ⟨o, _, _, ho, _⟩ := hn; rw [hC] at ho; cases ho
    have hLD : env.locals ≠ D := by rintro rfl; obtain ⟨o, _, _, ho, _⟩ := hn; rw [hD] at ho; cases ho
    have hk' : ∀ b o', s₁.heap.get? b = some o' → h'.get? b = some o' := fun b o' e => hk b o' (by simp; exact Nat.ne_of_lt (Heap.lt_size e)) (up b o' e)
    have hDs : s₁.heap.get? D = none := by
      cases e : s₁.heap.get? D with
      | none => rfl
      | some o' => have := up _ _ e; simp only at hD; rw [hD] at this; cases this
    show wpAny _ A (assign (.Name y py) env (.ref D)) _ _ _
    refine wpAny_assign_Name (wpAny_storeName_local hy (hn.at' fun o e => hk _ o hLw e) (fun h₂ hn₂ hs₂ => ?_) hp)
    refine ⟨m', hnC.sameBut hs₂ (Ne.symm hLC), fun h₃ hs₃ => ?_⟩
    have keep : ∀ b o', b ≠ env.locals → s₁.heap.get? b = some o' → h₃.get? b = some o' := fun b o' hb e =>
      hs₃.extBut b o' (by rintro rfl; simp only at hC; rw [up _ _ e] at hC; cases hC) (hs₂.extBut b o' hb (hk' b o' e))
    obtain ⟨oD, hoD, hdD⟩ := Heap.dictOf_iff.mp ((hlD.extBut hs₂.extBut (Ne.symm hLD)).extBut hs₃.extBut hDC)
    refine hf D oD h₃ _ kvs vs hlen hP hF hdD ⟨hn₂.sameBut hs₃ hLC, fun b o e => keep b o (Nat.ne_of_lt (Nat.lt_of_lt_of_le (Heap.lt_size e) F.above)) (F.keep b o e), F.above⟩ (fun q hq => ?_) fun q hq e => by rw [← e, (N q hq).1] at hDs; cases hDs
    rcases List.mem_cons.mp hq with rfl | hq
    · refine ⟨hoD, fun e => hLD e.symm, ?_⟩
      show g.get? D = none
      cases e : g.get? D with
      | none => rfl
      | some o' => rw [F.keep _ _ e] at hDs; cases hDs
    · exact ⟨keep _ _ (N q hq).2.1 (N q hq).1, (N q hq).2⟩
end
section
variable {prog : Program} {w : World} {A : Around} {E : Value → Shared → Prop} {s : Shared} {Q : Value → Shared → Prop}
theorem type_bytes {b : Array UInt8} {t : Tok} (hq : Q (.type "bytes") s) : wpAny (model prog w) A (call (.type "type") [.bytes b t]) Q E s := by
  refine wpAny_call (codeAny_of_tree ?_)
  show wpAny _ _ (callAny (.type "type") ⟨[.bytes b t], []⟩) _ _ _
  simp only [callAny]
  refine wpAny_pure ⟨Code.quiet_builtin _ (by decide +kernel), codeAny_builtin entry_type_call ?_⟩
  unfold Builtin.«type.__call__»
  dsimp only
  unfold shownTypeOf
  repeat wp_step
  exact hq
theorem type_bool {b : Bool} (hq : Q (.type "bool") s) : wpAny (model prog w) A (call (.type "type") [.bool b]) Q E s := by
  refine wpAny_call (codeAny_of_tree ?_)
  show wpAny _ _ (callAny (.type "type") ⟨[.bool b], []⟩) _ _ _
  simp only [callAny]
  refine wpAny_pure ⟨Code.quiet_builtin _ (by decide +kernel), codeAny_builtin entry_type_call ?_⟩
  unfold Builtin.«type.__call__»
  dsimp only
  unfold shownTypeOf
  repeat wp_step
  exact hq
end
theorem ba63 (x : Int) : 0 ≤ Builtin.bitAnd x 63 ∧ Builtin.bitAnd x 63 < 64 := by
  have := bitAnd_range x (y := 63) (by decide)
  omega
/-- the library's loop ends under a name of their own, so that the walk leaves a turn's end to the hand -/
noncomputable def TPost {σ : Type} (h₀ : Heap) (L : Addr) (Led : σ → List (Addr × Obj)) (ps : σ → List (Str × Value)) (x : Str) (stored : List Str) (m₀ : Str → Option Value) (P : List Int → σ → Prop) (pre : List Int) (own : List (Addr × Obj)) (adr : List Addr) (s₁ : Shared) (Q : Flow → Shared → Prop) (f : Flow) (s₂ : Shared) : Prop :=
  InvPostN h₀ L (KstS Led ps (fun _ => True) x stored m₀ P pre) own adr s₁ Q f s₂
section
variable {prog : Program} {w : World} {A : Around} {E : Value → Shared → Prop} {s : Shared} {env : Env} {h₀ : Heap} {x : Str} {body : List Stmt} {Q : Flow → Shared → Prop}
theorem mbytes {σ : Type} {b : Array UInt8} {ks : List Int} {len : Nat} {tb : Tok} {m₀ : Str → Option Value} (Led : σ → List (Addr × Obj)) (ps : σ → List (Str × Value)) (stored : List Str) (P : List Int → σ → Prop) (c₀ : σ)
    (hb : KBw.bInts b = ks) (hl : ks.length = len) (hh : A.handled = none) (F : Fr h₀ env.locals s.heap m₀) (N : News h₀ env.locals s.heap (Led c₀)) (hk : ∀ p ∈ ps c₀, m₀ p.1 = some p.2) (hp : P [] c₀)
    (turn : ∀ (c : σ) (pre post : List Int) (n : Int) t (u : Str → Option Value) h tk own, ks = pre ++ n :: post → pre.length < len → 0 ≤ n → n < 256 → OwnOff own ((Led c₀).map (·.1)) → P pre c →
      Fr h₀ env.locals h (fun y => if y = x then some (.int n t) else kstB (fun z => if stored.contains z then u z else m₀ z) (ps c) y) → News h₀ env.locals h (Led c ++ own) →
      wpAny (model prog w) A (execs body env) (TPost h₀ env.locals Led ps x stored m₀ P (pre ++ [n]) own ((Led c₀).map (·.1)) { s with heap := h, toks := tk } Q) E { s with heap := h, toks := tk })
    (done : ∀ (c : σ) (u : Str → Option Value) h tk, P ks c → Fr h₀ env.locals h (fun y => if y = x then u y else kstB (fun z => if stored.contains z then u z else m₀ z) (ps c) y) → News h₀ env.locals h (Led c) → Q .next { s with heap := h, toks := tk }) :
    wpAny (model prog w) A (pyIter (.bytes b tb)) (fun it s₂ => LoopAtV prog w A h₀ env x body Q E it s₂) E s :=
  KStb.kst_bytes Led ps (fun _ => True) stored P c₀ hb hl hh F N trivial hk hp (fun c pre post n t u h tk own e1 e2 e3 e4 e5 _ => turn c pre post n t u h tk own e1 e2 e3 e4 e5) (fun c u h tk _ _ => done c u h tk)
theorem mrange {σ : Type} {r : Addr} {a₀ b₀ : Int} {t₀ u₀ v₀ : Tok} {n : Nat} {m₀ : Str → Option Value} (Led : σ → List (Addr × Obj)) (ps : σ → List (Str × Value)) (stored : List Str) (P : List Int → σ → Prop) (c₀ : σ)
    (hh : A.handled = none) (hr : IsRange s.heap r a₀ b₀ 1 t₀ u₀ v₀) (hsmall : Builtin.Range.small a₀ b₀ 1 = true) (hn : Builtin.Range.rangeSize a₀ b₀ 1 = (n : Int)) (F : Fr h₀ env.locals s.heap m₀) (N : News h₀ env.locals s.heap (Led c₀)) (hk : ∀ p ∈ ps c₀, m₀ p.1 = some p.2) (hp : P [] c₀)
    (turn : ∀ (c : σ) (pre : List Int) (k : Int) t (u : Str → Option Value) h tk own, k = a₀ + (pre.length : Int) → pre.length < n → OwnOff own ((Led c₀).map (·.1)) → P pre c →
      Fr h₀ env.locals h (fun y => if y = x then some (.int k t) else kstB (fun z => if stored.contains z then u z else m₀ z) (ps c) y) → News h₀ env.locals h (Led c ++ own) →
      wpAny (model prog w) A (execs body env) (TPost h₀ env.locals Led ps x stored m₀ P (pre ++ [k]) own ((Led c₀).map (·.1)) { s with heap := h, toks := tk } Q) E { s with heap := h, toks := tk })
    (done : ∀ (c : σ) (u : Str → Option Value) h tk, P (rangeKs a₀ n) c → Fr h₀ env.locals h (fun y => if y = x then u y else kstB (fun z => if stored.contains z then u z else m₀ z) (ps c) y) → News h₀ env.locals h (Led c) → Q .next { s with heap := h, toks := tk }) :
    wpAny (model prog w) A (pyIter (.ref r)) (fun it s₂ => LoopAtV prog w A h₀ env x body Q E it s₂) E s :=
  kst_range Led ps (fun _ => True) stored P c₀ hh hr hsmall hn F N trivial hk hp (fun c pre k t u h tk own e1 e2 e3 _ => turn c pre k t u h tk own e1 e2 e3) (fun c u h tk _ => done c u h tk)
theorem tpost_end {σ : Type} {Led : σ → List (Addr × Obj)} {ps : σ → List (Str × Value)} {stored : List Str} {m₀ : Str → Option Value} {P : List Int → σ → Prop} {pre : List Int} (c : σ) {L : Addr} {m' : Str → Option Value} {own news' : List (Addr × Obj)} {adr : List Addr} {s₁ : Shared} {h' : Heap} {tk : Nat}
    (F : Fr h₀ L h' m') (N : News h₀ L h' news') (hn : ∀ p ∈ Led c, p ∈ news') (ho : ∀ p ∈ own, p ∈ news') (ha : (Led c).map (·.1) = adr) (hk : ∀ p ∈ ps c, m' p.1 = some p.2) (hr : ∀ z, z ≠ x → (∀ p ∈ ps c, z ≠ p.1) → stored.contains z = false → m' z = m₀ z) (hp : P pre c) :
    TPost h₀ L Led ps x stored m₀ P pre own adr s₁ Q .next { s₁ with heap := h', toks := tk } := kst_end c F N hn ho ha trivial hk hr hp
end
open PySem.AutoSeq1 (wpAny_loadPart')
section
variable {prog : Program} {w : World} {A : Around} {E : Value → Shared → Prop} {s : Shared}
/-- the next item of a tuple's iterator, drawn by another iterator -/
theorem nextOf_tup {it t : Addr} {i : Nat} {items : Array Value} {x : Value} {Q : Value → Shared → Prop} (hit : s.heap.IsTupleIter it t i)
    (ht : s.heap.IsTuple t items) (hx : items[i]? = some x)
    (hQ : ∀ h', h'.IsTupleIter it t (i + 1) → Heap.SameBut it s.heap h' → Q x { s with heap := h' }) :
    wpAny (model prog w) A (Builtin.SmallTypes.nextOf (.ref it)) Q E s := by
  obtain ⟨o, ho, hc, hd⟩ := id hit
  obtain ⟨ol, hol, _, nl, hdl⟩ := ht
  unfold Builtin.SmallTypes.nextOf
  refine wpAny_bind (wpAny_callSpecial?_slot (name := Str.ofString "__next__") hit.typeIs F.slot_tuple_iterator_next
    (wpAny_call_entry F.slot_tuple_iterator_next hit.typeIs F.entry_tuple_iterator_next ?_ (F.args_tuple_iterator_next_1 _)))
  show wpAny _ _ (field (.ref it) 0 >>= _) _ _ s
  refine wpAny_bind (wpAny_field ho hd (x := .ref t) rfl ?_)
  show wpAny _ _ (if (Value.ref t == Value.none) = true then _ else _) _ _ s
  rw [if_neg (show ¬ ((Value.ref t == Value.none) = true) from Bool.false_ne_true)]
  show wpAny _ _ (field (.ref it) 1 >>= _) _ _ s
  refine wpAny_bind (wpAny_field ho hd (x := .int i 0) rfl ?_)
  show wpAny _ _ (seqItems? (.ref t) >>= _) _ _ s
  refine wpAny_bind (wpAny_seqItems hol hdl ?_)
  simp only [Int.toNat_natCast, hx]
  refine wpAny_bind (wpAny_setField ho hd (by simp) (wpAny_pure ⟨x, rfl, wpAny_pure (hQ _ ?_ (Heap.SameBut.update ..))⟩))
  exact ⟨_, Heap.get?_update_self _ ho (Obj.isFreed_of_fields (Obj.data_mapFields hd _)), (Obj.cls_mapFields ..).trans hc, by
    rw [Obj.data_mapFields hd]; simp [rawInt]⟩
theorem nextOf_tup_end {it t : Addr} {i : Nat} {items : Array Value} {Q : Value → Shared → Prop} (hh : A.handled = none)
    (hit : s.heap.IsTupleIter it t i) (ht : s.heap.IsTuple t items) (hx : items[i]? = none)
    (hE : ∀ h' e, Heap.ExtBut it s.heap h' → (∃ o, h'.get? e = some o ∧ o.cls = .type "StopIteration") → E (.ref e) { s with heap := h' }) :
    wpAny (model prog w) A (Builtin.SmallTypes.nextOf (.ref it)) Q E s := by
  obtain ⟨o, ho, hc, hd⟩ := id hit
  obtain ⟨ol, hol, _, nl, hdl⟩ := ht
  unfold Builtin.SmallTypes.nextOf
  refine wpAny_bind (wpAny_callSpecial?_slot (name := Str.ofString "__next__") hit.typeIs F.slot_tuple_iterator_next
    (wpAny_call_entry F.slot_tuple_iterator_next hit.typeIs F.entry_tuple_iterator_next ?_ (F.args_tuple_iterator_next_1 _)))
  show wpAny _ _ (field (.ref it) 0 >>= _) _ _ s
  refine wpAny_bind (wpAny_field ho hd (x := .ref t) rfl ?_)
  show wpAny _ _ (if (Value.ref t == Value.none) = true then _ else _) _ _ s
  rw [if_neg (show ¬ ((Value.ref t == Value.none) = true) from Bool.false_ne_true)]
  show wpAny _ _ (field (.ref it) 1 >>= _) _ _ s
  refine wpAny_bind (wpAny_field ho hd (x := .int i 0) rfl ?_)
  show wpAny _ _ (seqItems? (.ref t) >>= _) _ _ s
  refine wpAny_bind (wpAny_seqItems hol hdl ?_)
  simp only [Int.toNat_natCast, hx]
  refine wpAny_bind (wpAny_rule (wpAny_bind (wpAny_setField ho hd (by simp) ?_)))
  show wpAny _ _ (newExc (.type "StopIteration") [] >>= _) _ _ _
  refine wpAny_bind ?_
  simp only [newExc, newTuple]
  refine wpAny_bind (wpAny_newObj_type ?_ (by size_fits))
  refine wpAny_bind (m := firstArgMember _ _) (wpAny_of_eq (a := Value.none) (by first | rfl | (simp only [firstArgMember]; rfl)) ?_)
  refine wpAny_newObj_type ?_ (by size_fits)
  simp only [raiseNew]
  refine wpAny_bind (wpAny_handled ?_)
  first | rw [show A.in1.handled = none from hh] | rw [hh]
  refine wpAny_bind (wpAny_pure (wpAny_throw ?_))
  exact hE _ _ (((Heap.SameBut.update ..).extBut.push _).push _) ⟨_, Heap.get?_push_size _ rfl, rfl⟩
end
theorem drawsTuple {prog : Program} {w : World} {A : Around} (hh : A.handled = none) (it l : Addr) (hne : l ≠ it) (items : Array Value) :
    Draws prog w A it [it, l] items.size (fun i v => items[i]? = some v) (fun i h => h.IsTupleIter it l i ∧ h.IsTuple l items) where
  live := fun _ _ st => let ⟨o, ho, _⟩ := st.1; ⟨o, ho⟩
  frame := fun _ _ _ st hk => ⟨st.1.at fun o e => hk it (by simp) o e, st.2.at fun o e => hk l (by simp) o e⟩
  item := fun i s Q E hi st hQ => by
    refine nextOf_tup st.1 st.2 (x := items[i]) (by simp [hi]) fun h' hit' hs' => ?_
    exact hQ _ h' s.toks (by simp [hi]) ⟨hit', st.2.extBut hs'.extBut hne⟩ hs'
  done := fun s Q E st hE => nextOf_tup_end hh st.1 st.2 (by simp) hE
set_option maxHeartbeats 1000000 in
theorem enum_newT (l : Addr) (items : Array Value) (n : Nat) (dct : Option Addr) (sl : Array (Option Value)) :
    Meets (Builtin.«enumerate.__new__» ⟨[.type "enumerate", .ref l], []⟩) (fun _ R s => s.heap.get? l = some { cls := .type "tuple", dict := dct, data := .seq items n, slots := sl } ∧
      R (.ok (.ret (.ref (s.heap.push { cls := .type "tuple_iterator", data := .fields #[.ref l, .int 0 0] }).objs.size)))
        { s with heap := (s.heap.push { cls := .type "tuple_iterator", data := .fields #[.ref l, .int 0 0] }).push { cls := .type "enumerate", data := .fields #[.none, .bool false, .ref s.heap.objs.size, rawInt 0, .none, .none] } }) :=
  .of_wp fun prog w A R s h => by
    obtain ⟨hp, g, d, tk, os⟩ := s; obtain ⟨hl, h⟩ := h
    have hsub := sub_enumerate
    have hL : Heap.IsTuple (Shared.heap ⟨hp, g, d, tk, os⟩) l items := ⟨_, hl, rfl, n, rfl⟩
    wp_walk using wpAny_loadPart' hl
    refine wpAny_stack_any fun st => wpAny_pure ?_
    split
    · rename_i c _ _ _ _ _
      cases (c == Value.type "enumerate")
      · wp_walk using wpAny_loadPart' hl, wpAny_pyIter_tuple hL
        exact ⟨_, rfl, h⟩
      · wp_walk using wpAny_loadPart' hl, wpAny_pyIter_tuple hL
        exact ⟨_, rfl, h⟩
    · wp_walk using wpAny_loadPart' hl, wpAny_pyIter_tuple hL
      exact ⟨_, rfl, h⟩
theorem call_enumT {prog : Program} {w : World} {A : Around} {E : Value → Shared → Prop} {s : Shared} {l : Addr} {items : Array Value} {Q : Value → Shared → Prop} (hL : s.heap.IsTuple l items)
    (h : ∀ h', IsEnum h' (s.heap.objs.size + 1) s.heap.objs.size 0 .none → h'.IsTupleIter s.heap.objs.size l 0 → h'.objs.size = s.heap.objs.size + 2 →
      (∀ b o, s.heap.get? b = some o → h'.get? b = some o) → Q (.ref (s.heap.objs.size + 1)) { s with heap := h' }) :
    wpAny (model prog w) A (call (.type "enumerate") [.ref l]) Q E s := by
  obtain ⟨⟨c, dct, dt, sl⟩, hl, hc, n, hd⟩ := hL
  replace hc : c = .type "tuple" := hc
  replace hd : dt = .seq items n := hd
  subst hc hd
  refine callType_new F.called_enumerate (by decide) (F.typeCall_enumerate_1 _) (F.newCall_enumerate_1 _) (fun obj => F.args_object_init_2 obj _) F.entry_enumerate_new
    (enum_newT l items n dct sl) ⟨hl, ?_⟩
  have hz : (s.heap.push { cls := .type "tuple_iterator", data := .fields #[.ref l, .int 0 0] }).objs.size = s.heap.objs.size + 1 := Heap.size_push ..
  show _ ∧ _
  rw [hz]
  have he : IsEnum ((s.heap.push { cls := .type "tuple_iterator", data := .fields #[.ref l, .int 0 0] }).push
      { cls := .type "enumerate", data := .fields #[.none, .bool false, .ref s.heap.objs.size, rawInt 0, .none, .none] }) (s.heap.objs.size + 1) s.heap.objs.size 0 .none := by
    have := Heap.get?_push_size (s.heap.push { cls := .type "tuple_iterator", data := .fields #[.ref l, .int 0 0] })
      (o := { cls := .type "enumerate", data := .fields #[.none, .bool false, .ref s.heap.objs.size, rawInt 0, .none, .none] }) rfl
    rw [hz] at this; exact this
  refine ⟨⟨_, he, rfl⟩, h _ he ⟨_, Heap.get?_push_of_some _ (Heap.get?_push_size _ rfl), rfl, rfl⟩ (by rw [Heap.size_push, hz]) fun b o x => Heap.get?_push_of_some _ (Heap.get?_push_of_some _ x)⟩
noncomputable def BA (ns : List Nat) : Array UInt8 := (ns.map fun n => n.toUInt8).toArray
noncomputable def octN (R : Nat) : List Nat := [R / 1099511627776 % 256, R / 4294967296 % 256, R / 16777216 % 256, R / 65536 % 256, R / 256 % 256, R % 256]
theorem all_items {vs : List Value} {its : Array Value} (h : vs.length = its.size) (hP : ∀ (j : Nat) (v : Value), vs[j]? = some v → its[j]? = some v) : vs = its.toList := by
  apply List.ext_getElem?
  intro j
  have e2 : its.toList[j]? = its[j]? := Array.getElem?_toList ..
  rw [e2]
  cases e : vs[j]? with
  | some v => exact (hP j v e).symm
  | none =>
    have := List.getElem?_eq_none_iff.mp e
    exact (Array.getElem?_eq_none_iff.mpr (by omega)).symm
theorem paired_ints {f : Int → Int} {vs ys : List Value} {ks : List Int} (h : IntsAre vs ks) (p : Paired (fun v y => ∃ k t t', v = .int k t ∧ y = .int (f k) t') vs ys) : IntsAre ys (ks.map f) := by
  induction h generalizing ys with
  | nil => cases p; exact .nil
  | cons a u _ ih =>
    cases p with
    | cons h p =>
      obtain ⟨k, t, t', e, rfl⟩ := h
      cases e
      exact .cons _ _ (ih p)
theorem filt_true (vs : List Value) : vs.filter (fun _ => true) = vs := List.filter_eq_self.mpr (fun _ _ => rfl)
theorem map_toNat (ns : List Int) (ms : List Nat) (h : ns.map Int.toNat = ms) : (ns.map fun n => n.toNat.toUInt8).toArray = BA ms := by
  subst h; simp [BA]
theorem fdm (R a b : Nat) : (((R : Int).fdiv (a : Int)).fmod (b : Int)) = ((R / a % b : Nat) : Int) := by
  rw [Int.fdiv_eq_ediv_of_nonneg _ (Int.natCast_nonneg _), Int.fmod_eq_emod_of_nonneg _ (Int.natCast_nonneg _)]; rfl
theorem octs_eq (R : Nat) : List.map Int.toNat (List.map (fun k => ((R : Int).fdiv (256 ^ Int.toNat k)).fmod 256) [5, 4, 3, 2, 1, 0]) = octN (Int.toNat (R : Int)) := by
  have e (a : Nat) : ((R : Int).fdiv (a : Int)).fmod 256 = ((R / a % 256 : Nat) : Int) := fdm R a 256
  have e5 := e 1099511627776
  have e4 := e 4294967296
  have e3 := e 16777216
  have e2 := e 65536
  have e1 := e 256
  have e0 := e 1
  simp only [List.map_cons, List.map_nil, octN, Int.toNat_natCast]
  have q5 : ((256 : Int) ^ Int.toNat 5) = ((1099511627776 : Nat) : Int) := by decide
  have q4 : ((256 : Int) ^ Int.toNat 4) = ((4294967296 : Nat) : Int) := by decide
  have q3 : ((256 : Int) ^ Int.toNat 3) = ((16777216 : Nat) : Int) := by decide
  have q2 : ((256 : Int) ^ Int.toNat 2) = ((65536 : Nat) : Int) := by decide
  have q1 : ((256 : Int) ^ Int.toNat 1) = ((256 : Nat) : Int) := by decide
  have q0 : ((256 : Int) ^ Int.toNat 0) = ((1 : Nat) : Int) := by decide
  rw [q5, q4, q3, q2, q1, q0, e5, e4, e3, e2, e1, e0]
  simp only [Int.toNat_natCast, Nat.div_one]
theorem py_pow {b : Int} (hb : b = 256 ∨ b = 64) {k : Int} (h1 : k ≤ 7) : (b ^ k.toNat).natAbs.log2 < 9000 := by
  have h256 : ∀ n, n < 8 → ((256 : Int) ^ n).natAbs.log2 < 9000 := by decide +kernel
  have h64 : ∀ n, n < 8 → ((64 : Int) ^ n).natAbs.log2 < 9000 := by decide +kernel
  rcases hb with rfl | rfl
  · exact h256 _ (by omega)
  · exact h64 _ (by omega)
theorem octets_ok (w : World) (row : Int) (t : Tok) (h0 : 0 ≤ row) (h1 : row < 2 ^ 48) : Pure w 1 152 [.int row t] [] (fun _ => True) (fun t => .bytes (BA (octN row.toNat)) t) := by
  ((((w_top off; intro p loose mean mg mb dp un gd cn cs a ccd cl outer A₀ base h₀ L m s Q E B F X T hk hpre hdp hun hret; ((have hfill : (fun (_ : OpenLaw) (_ : Params → Frag) => True) PySem.Challenge.rw_om0013_01 KK := (by k_fill; trivial); clear hfill)))); ((refine wpAny_call ?_; k_dflt (refine' enter0C ?k1 ?k2 ?k3 ?k5 rfl rfl (by assumption) ?k6 ?k7 ?k8 ?k9 ?kB ?kD ?_ ?c2 ?c3 ?c4; (case k1 => k_asm); (case k2 => k_asm); (case k3 => k_asm); (case k5 => k_asm); (case k6 => k_is); (case k7 => k_is); (case k8 => ktr_room); (case k9 => (first | exact BindsTo.of_eq rfl | exact binds_K (by k_in) rfl (by k_is) rfl rfl rfl)); (case kB => exact rfl); (case kD => decide +kernel); (case c2 => exact rfl); (case c3 => exact rfl); (case c4 => exact rfl); k_whole); intro g9 L9 h9 tk9 cells9 kp9 F9 N9 Y9 B9 X9 T9; k_cells Y9; (((try dsimp only); (try k_fold)))))))
  (repeat' (first | ((k_unfold; (try dsimp only))) | ((fail_if_success (with_reducible show wpAny _ _ (exec (Stmt.While _ _ _ _) _) _ _ _)); (((fail_if_success (with_reducible show wpAny _ _ (pyIter _) _ _ _)); (fail_if_success (with_reducible show wpAny _ _ (exec (Stmt.For _ _ _ _ _) _) _ _ _)); (fail_if_success (with_reducible show wpAny _ _ (eval (Expr.ListComp _ _ _ _) _) _ _ _)); (fail_if_success (with_reducible show wpAny _ _ (exec (Stmt.Assign _ (Expr.ListComp _ _ _ _) _) _) _ _ _)); walk1; (try dsimp only)))) | dsimp only))
  refine comp_gen (fun _ => true) (fun v y => ∃ k t t', v = .int k t ∧ y = .int ((row.fdiv (256 ^ k.toNat)).fmod 256) t') (by assumption) (by with_unfolding_all rfl) (by decide) (by rfl) (by decide) (by rfl) ?_
  (repeat' (first | ((k_unfold; (try dsimp only))) | ((fail_if_success (with_reducible show wpAny _ _ (exec (Stmt.While _ _ _ _) _) _ _ _)); (((fail_if_success (with_reducible show wpAny _ _ (pyIter _) _ _ _)); (fail_if_success (with_reducible show wpAny _ _ (exec (Stmt.For _ _ _ _ _) _) _ _ _)); (fail_if_success (with_reducible show wpAny _ _ (eval (Expr.ListComp _ _ _ _) _) _ _ _)); (fail_if_success (with_reducible show wpAny _ _ (exec (Stmt.Assign _ (Expr.ListComp _ _ _ _) _) _) _ _ _)); walk1; (try dsimp only)))) | dsimp only))
  refine ⟨_, _, _, Src.tuple (by rfl) (News.isTup (by assumption) (by k_mem)), by assumption, by assumption, Nat.le_of_ble_eq_true rfl, ?_, ?_, ?_⟩
  · intro C oC m₂ i v s₃ E' hP hc
    exact wpAny_pure ⟨rfl, _, _, rfl, fun _ _ e => e⟩
  · rintro C oC m₂ i v s₃ E' hP - ⟨c1, c2, c3, c4⟩
    obtain ⟨k, tt, rfl, hk0, hk1⟩ : ∃ (k : Int) (tt : Tok), v = .int k tt ∧ 0 ≤ k ∧ k ≤ 5 := by
      have hm := Array.mem_of_getElem? hP
      simp only [List.mem_toArray, List.mem_cons, List.not_mem_nil, or_false] at hm
      rcases hm with rfl | rfl | rfl | rfl | rfl | rfl <;> exact ⟨_, _, rfl, by decide, by decide⟩
    clear hP
    (repeat' (first | ((k_unfold; (try dsimp only))) | ((fail_if_success (with_reducible show wpAny _ _ (exec (Stmt.While _ _ _ _) _) _ _ _)); (((fail_if_success (with_reducible show wpAny _ _ (pyIter _) _ _ _)); (fail_if_success (with_reducible show wpAny _ _ (exec (Stmt.For _ _ _ _ _) _) _ _ _)); (fail_if_success (with_reducible show wpAny _ _ (eval (Expr.ListComp _ _ _ _) _) _ _ _)); (fail_if_success (with_reducible show wpAny _ _ (exec (Stmt.Assign _ (Expr.ListComp _ _ _ _) _) _) _ _ _)); walk1; (try dsimp only)))) | dsimp only))
    refine floordiv_int (Int.ne_of_gt (Int.pow_pos (by decide))) ?_ (Or.inl (PyProof.noPylong_of_log2 (py_pow (by decide) (by omega))))
    (repeat' (first | ((k_unfold; (try dsimp only))) | ((fail_if_success (with_reducible show wpAny _ _ (exec (Stmt.While _ _ _ _) _) _ _ _)); (((fail_if_success (with_reducible show wpAny _ _ (pyIter _) _ _ _)); (fail_if_success (with_reducible show wpAny _ _ (exec (Stmt.For _ _ _ _ _) _) _ _ _)); (fail_if_success (with_reducible show wpAny _ _ (eval (Expr.ListComp _ _ _ _) _) _ _ _)); (fail_if_success (with_reducible show wpAny _ _ (exec (Stmt.Assign _ (Expr.ListComp _ _ _ _) _) _) _ _ _)); walk1; (try dsimp only)))) | dsimp only))
    exact ⟨⟨_, _, _, rfl, rfl⟩, _, _, rfl, fun _ _ e => e⟩
  · intro D h' tk k ys vs hlen hP hF F2 N2 hD
    (repeat' (first | ((k_unfold; (try dsimp only))) | ((fail_if_success (with_reducible show wpAny _ _ (exec (Stmt.While _ _ _ _) _) _ _ _)); (((fail_if_success (with_reducible show wpAny _ _ (pyIter _) _ _ _)); (fail_if_success (with_reducible show wpAny _ _ (exec (Stmt.For _ _ _ _ _) _) _ _ _)); (fail_if_success (with_reducible show wpAny _ _ (eval (Expr.ListComp _ _ _ _) _) _ _ _)); (fail_if_success (with_reducible show wpAny _ _ (exec (Stmt.Assign _ (Expr.ListComp _ _ _ _) _) _) _ _ _)); walk1; (try dsimp only)))) | dsimp only))
    have hv := all_items hlen hP
    subst hv
    rw [filt_true] at hF
    have hI : IntsAre ys _ := paired_ints (ks := [5, 4, 3, 2, 1, 0]) (f := fun k => (row.fdiv (256 ^ k.toNat)).fmod 256) (by repeat constructor) hF
    refine bytes_K F2 N2 ?l hI ?_ ?_ ?hh ?_
    case l => exact ⟨_, (N2 _ (.head _)).1, rfl, _, rfl⟩
    case hh => exact rfl
    · intro n hn
      obtain ⟨k, _, rfl⟩ := List.mem_map.mp hn
      exact ⟨Int.fmod_nonneg_of_pos _ (by decide), Int.fmod_lt_of_pos _ (by decide)⟩
    · rw [IntsAre.length hI]; exact Nat.le_of_ble_eq_true rfl
    · intro h3 t3 k3 F3 N3 _
      rename ∀ (t : Tok) (h' : Heap) (tk' : Nat), Kp _ _ → _ => hr9
      dsimp only
      refine end_bytes' hr9 (by assumption) F3 rfl (map_toNat _ _ ?_)
      obtain ⟨R, rfl⟩ := Int.eq_ofNat_of_zero_le h0
      exact octs_eq R
noncomputable def sgL : List UInt8 := [65, 66, 67, 68, 69, 70, 71, 72, 73, 74, 75, 76, 77, 78, 79, 80, 81, 82, 83, 84, 85, 86, 87, 88, 89, 90, 97, 98, 99, 100, 101, 102, 103, 104, 105, 106, 107, 108, 109, 110, 111, 112, 113, 114, 115, 116, 117, 118, 119, 120, 121, 122, 48, 49, 50, 51, 52, 53, 54, 55, 56, 57, 43, 47]
noncomputable def sg (k : Nat) : Nat := (sgL.getD k 0).toNat
noncomputable def txtN (R : Nat) : List Nat := [sg (R / 4398046511104 % 64), sg (R / 68719476736 % 64), sg (R / 1073741824 % 64), sg (R / 16777216 % 64), sg (R / 262144 % 64), sg (R / 4096 % 64), sg (R / 64 % 64), sg (R % 64)]
theorem txts_eq (R : Nat) : List.map Int.toNat (List.map (fun k => (((sgL.getD (((R : Int).fdiv (64 ^ Int.toNat k)).fmod 64).toNat 0).toNat : Nat) : Int)) [7, 6, 5, 4, 3, 2, 1, 0]) = txtN (Int.toNat (R : Int)) := by
  have e (a : Nat) : ((R : Int).fdiv (a : Int)).fmod 64 = ((R / a % 64 : Nat) : Int) := fdm R a 64
  simp only [List.map_cons, List.map_nil, txtN, sg, Int.toNat_natCast]
  have q7 : ((64 : Int) ^ Int.toNat 7) = ((4398046511104 : Nat) : Int) := by decide
  have q6 : ((64 : Int) ^ Int.toNat 6) = ((68719476736 : Nat) : Int) := by decide
  have q5 : ((64 : Int) ^ Int.toNat 5) = ((1073741824 : Nat) : Int) := by decide
  have q4 : ((64 : Int) ^ Int.toNat 4) = ((16777216 : Nat) : Int) := by decide
  have q3 : ((64 : Int) ^ Int.toNat 3) = ((262144 : Nat) : Int) := by decide
  have q2 : ((64 : Int) ^ Int.toNat 2) = ((4096 : Nat) : Int) := by decide
  have q1 : ((64 : Int) ^ Int.toNat 1) = ((64 : Nat) : Int) := by decide
  have q0 : ((64 : Int) ^ Int.toNat 0) = ((1 : Nat) : Int) := by decide
  rw [q7, q6, q5, q4, q3, q2, q1, q0, e, e, e, e, e, e, e, e]
  simp only [Int.toNat_natCast, Nat.div_one]
theorem text_ok (w : World) (row : Int) (t : Tok) (h0 : 0 ≤ row) (h1 : row < 2 ^ 48) : Pure w 1 157 [.int row t] [] (fun _ => True) (fun t => .bytes (BA (txtN row.toNat)) t) := by
  ((((w_top off; intro p loose mean mg mb dp un gd cn cs a ccd cl outer A₀ base h₀ L m s Q E B F X T hk hpre hdp hun hret; ((have hfill : (fun (_ : OpenLaw) (_ : Params → Frag) => True) PySem.Challenge.rw_om0013_01 KK := (by k_fill; trivial); clear hfill)))); ((refine wpAny_call ?_; k_dflt (refine' enter0C ?k1 ?k2 ?k3 ?k5 rfl rfl (by assumption) ?k6 ?k7 ?k8 ?k9 ?kB ?kD ?_ ?c2 ?c3 ?c4; (case k1 => k_asm); (case k2 => k_asm); (case k3 => k_asm); (case k5 => k_asm); (case k6 => k_is); (case k7 => k_is); (case k8 => ktr_room); (case k9 => (first | exact BindsTo.of_eq rfl | exact binds_K (by k_in) rfl (by k_is) rfl rfl rfl)); (case kB => exact rfl); (case kD => decide +kernel); (case c2 => exact rfl); (case c3 => exact rfl); (case c4 => exact rfl); k_whole); intro g9 L9 h9 tk9 cells9 kp9 F9 N9 Y9 B9 X9 T9; k_cells Y9; (((try dsimp only); (try k_fold)))))))
  (repeat' (first | ((k_unfold; (try dsimp only))) | ((fail_if_success (with_reducible show wpAny _ _ (exec (Stmt.While _ _ _ _) _) _ _ _)); (((fail_if_success (with_reducible show wpAny _ _ (pyIter _) _ _ _)); (fail_if_success (with_reducible show wpAny _ _ (exec (Stmt.For _ _ _ _ _) _) _ _ _)); (fail_if_success (with_reducible show wpAny _ _ (eval (Expr.ListComp _ _ _ _) _) _ _ _)); (fail_if_success (with_reducible show wpAny _ _ (exec (Stmt.Assign _ (Expr.ListComp _ _ _ _) _) _) _ _ _)); walk1; (try dsimp only)))) | dsimp only))
  refine comp_gen (fun _ => true) (fun v y => ∃ k t t', v = .int k t ∧ y = .int (((sgL.getD ((row.fdiv (64 ^ k.toNat)).fmod 64).toNat 0).toNat : Nat) : Int) t') (by assumption) (by with_unfolding_all rfl) (by decide) (by rfl) (by decide) (by rfl) ?_
  (repeat' (first | ((k_unfold; (try dsimp only))) | ((fail_if_success (with_reducible show wpAny _ _ (exec (Stmt.While _ _ _ _) _) _ _ _)); (((fail_if_success (with_reducible show wpAny _ _ (pyIter _) _ _ _)); (fail_if_success (with_reducible show wpAny _ _ (exec (Stmt.For _ _ _ _ _) _) _ _ _)); (fail_if_success (with_reducible show wpAny _ _ (eval (Expr.ListComp _ _ _ _) _) _ _ _)); (fail_if_success (with_reducible show wpAny _ _ (exec (Stmt.Assign _ (Expr.ListComp _ _ _ _) _) _) _ _ _)); walk1; (try dsimp only)))) | dsimp only))
  refine ⟨_, _, _, Src.tuple (by rfl) (News.isTup (by assumption) (by k_mem)), by assumption, by assumption, Nat.le_of_ble_eq_true rfl, ?_, ?_, ?_⟩
  · intro C oC m₂ i v s₃ E' hP hc
    exact wpAny_pure ⟨rfl, _, _, rfl, fun _ _ e => e⟩
  · rintro C oC m₂ i v s₃ E' hP - ⟨c1, c2, c3, c4⟩
    obtain ⟨k, tt, rfl, hk0, hk1⟩ : ∃ (k : Int) (tt : Tok), v = .int k tt ∧ 0 ≤ k ∧ k ≤ 7 := by
      have hm := Array.mem_of_getElem? hP
      simp only [List.mem_toArray, List.mem_cons, List.not_mem_nil, or_false] at hm
      rcases hm with rfl | rfl | rfl | rfl | rfl | rfl | rfl | rfl <;> exact ⟨_, _, rfl, by decide, by decide⟩
    clear hP
    (repeat' (first | ((k_unfold; (try dsimp only))) | ((fail_if_success (with_reducible show wpAny _ _ (exec (Stmt.While _ _ _ _) _) _ _ _)); (((fail_if_success (with_reducible show wpAny _ _ (pyIter _) _ _ _)); (fail_if_success (with_reducible show wpAny _ _ (exec (Stmt.For _ _ _ _ _) _) _ _ _)); (fail_if_success (with_reducible show wpAny _ _ (eval (Expr.ListComp _ _ _ _) _) _ _ _)); (fail_if_success (with_reducible show wpAny _ _ (exec (Stmt.Assign _ (Expr.ListComp _ _ _ _) _) _) _ _ _)); walk1; (try dsimp only)))) | dsimp only))
    refine floordiv_int (Int.ne_of_gt (Int.pow_pos (by decide))) ?_ (Or.inl (PyProof.noPylong_of_log2 (py_pow (by decide) (by omega))))
    (repeat' (first | ((k_unfold; (try dsimp only))) | ((fail_if_success (with_reducible show wpAny _ _ (exec (Stmt.While _ _ _ _) _) _ _ _)); (((fail_if_success (with_reducible show wpAny _ _ (pyIter _) _ _ _)); (fail_if_success (with_reducible show wpAny _ _ (exec (Stmt.For _ _ _ _ _) _) _ _ _)); (fail_if_success (with_reducible show wpAny _ _ (eval (Expr.ListComp _ _ _ _) _) _ _ _)); (fail_if_success (with_reducible show wpAny _ _ (exec (Stmt.Assign _ (Expr.ListComp _ _ _ _) _) _) _ _ _)); walk1; (try dsimp only)))) | dsimp only))
    exact ⟨⟨_, _, _, rfl, rfl⟩, _, _, rfl, fun _ _ e => e⟩
  · intro D h' tk k ys vs hlen hP hF F2 N2 hD
    (repeat' (first | ((k_unfold; (try dsimp only))) | ((fail_if_success (with_reducible show wpAny _ _ (exec (Stmt.While _ _ _ _) _) _ _ _)); (((fail_if_success (with_reducible show wpAny _ _ (pyIter _) _ _ _)); (fail_if_success (with_reducible show wpAny _ _ (exec (Stmt.For _ _ _ _ _) _) _ _ _)); (fail_if_success (with_reducible show wpAny _ _ (eval (Expr.ListComp _ _ _ _) _) _ _ _)); (fail_if_success (with_reducible show wpAny _ _ (exec (Stmt.Assign _ (Expr.ListComp _ _ _ _) _) _) _ _ _)); walk1; (try dsimp only)))) | dsimp only))
    have hv := all_items hlen hP
    subst hv
    rw [filt_true] at hF
    have hI : IntsAre ys _ := paired_ints (ks := [7, 6, 5, 4, 3, 2, 1, 0]) (f := fun k => (((sgL.getD ((row.fdiv (64 ^ k.toNat)).fmod 64).toNat 0).toNat : Nat) : Int)) (by repeat constructor) hF
    refine bytes_K F2 N2 ?l hI ?_ ?_ ?hh ?_
    case l => exact ⟨_, (N2 _ (.head _)).1, rfl, _, rfl⟩
    case hh => exact rfl
    · intro n hn
      obtain ⟨k, _, rfl⟩ := List.mem_map.mp hn
      exact ⟨Int.natCast_nonneg _, by have := (sgL.getD ((row.fdiv (64 ^ k.toNat)).fmod 64).toNat 0).toNat_lt; omega⟩
    · rw [IntsAre.length hI]; exact Nat.le_of_ble_eq_true rfl
    · intro h3 t3 k3 F3 N3 _
      rename ∀ (t : Tok) (h' : Heap) (tk' : Nat), Kp _ _ → _ => hr9
      dsimp only
      refine end_bytes' hr9 (by assumption) F3 rfl (map_toNat _ _ ?_)
      obtain ⟨R, rfl⟩ := Int.eq_ofNat_of_zero_le h0
      exact txts_eq R
noncomputable def encStep (st : List Nat × Nat × Nat) (b : Nat) : List Nat × Nat × Nat :=
  let ch := (st.2.2 * 256 + b) % 65536
  if st.2.1 = 0 then (st.1 ++ [sg (ch / 4 % 64)], 2, ch) else if st.2.1 = 2 then (st.1 ++ [sg (ch / 16 % 64)], 4, ch) else (st.1 ++ [sg (ch / 64 % 64), sg (ch % 64)], 0, ch)
noncomputable def EncI (pre : List Int) (vals : List Value) (bits ch : Int) : Prop :=
  ∃ (o : List Nat) (b c : Nat), IntsAre vals (o.map Int.ofNat) ∧ bits = b ∧ ch = c ∧ (b = 0 ∨ b = 2 ∨ b = 4) ∧ c < 65536 ∧ o.length ≤ 2 * pre.length ∧ (pre.map Int.toNat).foldl encStep ([], 0, 0) = (o, b, c)
theorem ints_snoc {vs : List Value} {ns : List Int} {n : Int} {t : Tok} (h : IntsAre vs ns) : IntsAre (vs ++ [.int n t]) (ns ++ [n]) := by
  induction h with
  | nil => exact .cons n t .nil
  | cons a u _ ih => exact .cons a u ih
theorem encX {c : Nat} {n : Int} (h0 : 0 ≤ n) (h1 : n < 256) : Builtin.bitAnd (Builtin.bitOr ((c : Int) * 2 ^ Int.toNat 8) n) 65535 = (((c * 256 + n.toNat) % 65536 : Nat) : Int) := by
  obtain ⟨k, rfl⟩ := Int.eq_ofNat_of_zero_le h0
  have e : ((c : Int) * 2 ^ Int.toNat 8) = ((c * 256 : Nat) : Int) := by
    have : ((2 : Int) ^ Int.toNat 8) = 256 := by decide
    rw [this]; omega
  rw [e, bo, bitAnd_m16]
  have h : (c * 256 ||| k) = c * 256 + k := by
    have := Nat.two_pow_add_eq_or_of_lt (i := 8) (b := k) (by omega) c
    rw [show 2 ^ 8 = 256 from rfl, Nat.mul_comm] at this
    exact this.symm
  rw [h]; simp
theorem encY (X : Nat) {k : Int} (K : Nat) (hk : ((2 : Int) ^ k.toNat) = (K : Int)) : Builtin.bitAnd ((X : Int).fdiv (2 ^ k.toNat)) 63 = ((X / K % 64 : Nat) : Int) := by
  rw [hk, bitAnd_m6, Int.fdiv_eq_ediv_of_nonneg _ (Int.natCast_nonneg _)]; rfl
theorem enc_zero {pre : List Int} {vals : List Value} {o : List Nat} {c : Nat} {n : Int} {t : Tok} (hv : IntsAre vals (o.map Int.ofNat)) (hol : o.length ≤ 2 * pre.length) (he : (pre.map Int.toNat).foldl encStep ([], 0, 0) = (o, 0, c)) (h0 : 0 ≤ n) (h1 : n < 256) :
    EncI (pre ++ [n]) (vals ++ [.int (((sgL.getD (Builtin.bitAnd ((Builtin.bitAnd (Builtin.bitOr ((c : Int) * 2 ^ Int.toNat 8) n) 65535).fdiv (2 ^ (((0 : Nat) : Int) + 8 - 6).toNat)) 63).toNat 0).toNat : Nat) : Int) t]) (((0 : Nat) : Int) + 8 - 6) (Builtin.bitAnd (Builtin.bitOr ((c : Int) * 2 ^ Int.toNat 8) n) 65535) := by
  rw [encX h0 h1, encY _ 4 (by decide)]
  refine ⟨o ++ [sg ((c * 256 + n.toNat) % 65536 / 4 % 64)], 2, (c * 256 + n.toNat) % 65536, ?_, rfl, rfl, by omega, by omega, by simp only [List.length_append, List.length_cons, List.length_nil]; omega, ?_⟩
  · rw [List.map_append]; exact ints_snoc hv
  · rw [List.map_append, List.foldl_append, he]; rfl
theorem enc_two {pre : List Int} {vals : List Value} {o : List Nat} {c : Nat} {n : Int} {t : Tok} (hv : IntsAre vals (o.map Int.ofNat)) (hol : o.length ≤ 2 * pre.length) (he : (pre.map Int.toNat).foldl encStep ([], 0, 0) = (o, 2, c)) (h0 : 0 ≤ n) (h1 : n < 256) :
    EncI (pre ++ [n]) (vals ++ [.int (((sgL.getD (Builtin.bitAnd ((Builtin.bitAnd (Builtin.bitOr ((c : Int) * 2 ^ Int.toNat 8) n) 65535).fdiv (2 ^ (((2 : Nat) : Int) + 8 - 6).toNat)) 63).toNat 0).toNat : Nat) : Int) t]) (((2 : Nat) : Int) + 8 - 6) (Builtin.bitAnd (Builtin.bitOr ((c : Int) * 2 ^ Int.toNat 8) n) 65535) := by
  rw [encX h0 h1, encY _ 16 (by decide)]
  refine ⟨o ++ [sg ((c * 256 + n.toNat) % 65536 / 16 % 64)], 4, (c * 256 + n.toNat) % 65536, ?_, rfl, rfl, by omega, by omega, by simp only [List.length_append, List.length_cons, List.length_nil]; omega, ?_⟩
  · rw [List.map_append]; exact ints_snoc hv
  · rw [List.map_append, List.foldl_append, he]; rfl
theorem enc_four {pre : List Int} {vals : List Value} {o : List Nat} {c : Nat} {n : Int} {t t' : Tok} (hv : IntsAre vals (o.map Int.ofNat)) (hol : o.length ≤ 2 * pre.length) (he : (pre.map Int.toNat).foldl encStep ([], 0, 0) = (o, 4, c)) (h0 : 0 ≤ n) (h1 : n < 256) :
    EncI (pre ++ [n]) (vals ++ [.int (((sgL.getD (Builtin.bitAnd ((Builtin.bitAnd (Builtin.bitOr ((c : Int) * 2 ^ Int.toNat 8) n) 65535).fdiv (2 ^ (((4 : Nat) : Int) + 8 - 6).toNat)) 63).toNat 0).toNat : Nat) : Int) t] ++ [.int (((sgL.getD (Builtin.bitAnd ((Builtin.bitAnd (Builtin.bitOr ((c : Int) * 2 ^ Int.toNat 8) n) 65535).fdiv (2 ^ (((4 : Nat) : Int) + 8 - 6 - 6).toNat)) 63).toNat 0).toNat : Nat) : Int) t']) (((4 : Nat) : Int) + 8 - 6 - 6) (Builtin.bitAnd (Builtin.bitOr ((c : Int) * 2 ^ Int.toNat 8) n) 65535) := by
  rw [encX h0 h1, encY _ 64 (by decide), encY _ 1 (by decide)]
  refine ⟨o ++ [sg ((c * 256 + n.toNat) % 65536 / 64 % 64)] ++ [sg ((c * 256 + n.toNat) % 65536 / 1 % 64)], 0, (c * 256 + n.toNat) % 65536, ?_, rfl, rfl, by omega, by omega, by simp only [List.length_append, List.length_cons, List.length_nil]; omega, ?_⟩
  · rw [List.map_append, List.map_append]; exact ints_snoc (ints_snoc hv)
  · rw [List.map_append, List.foldl_append, he]; simp [encStep]
theorem sg_lt (k : Nat) : sg k < 256 := UInt8.toNat_lt _
theorem enc_lt : ∀ (l : List Nat) (st : List Nat × Nat × Nat), (∀ n ∈ st.1, n < 256) → ∀ n ∈ (l.foldl encStep st).1, n < 256
  | [], _, h => h
  | b :: l, st, h => by
    refine enc_lt l _ fun n hn => ?_
    simp only [encStep] at hn
    (repeat' split at hn) <;> simp only [List.mem_append, List.mem_cons, List.not_mem_nil, or_false] at hn
    · rcases hn with hn | rfl
      · exact h n hn
      · exact sg_lt _
    · rcases hn with hn | rfl
      · exact h n hn
      · exact sg_lt _
    · rcases hn with hn | rfl | rfl
      · exact h n hn
      · exact sg_lt _
      · exact sg_lt _
theorem ba_ofNat (o : List Nat) : ((o.map Int.ofNat).map fun n => n.toNat.toUInt8).toArray = BA o := by simp [BA]
/-- what stands behind a turn, under a name alone -/
theorem wpAny_q {M : Model} {A : Around} {t : Sem Flow} {Q : Flow → Shared → Prop} {E : Value → Shared → Prop} {s : Shared} (h : ∀ Q' : Flow → Shared → Prop, (∀ f s', Q f s' → Q' f s') → wpAny M A t Q' E s) : wpAny M A t Q E s := h Q fun _ _ x => x
theorem wpAny_qe {M : Model} {A : Around} {t : Sem Flow} {Q : Flow → Shared → Prop} {E : Value → Shared → Prop} {s : Shared} (h : ∀ (Q' : Flow → Shared → Prop) (E' : Value → Shared → Prop), (∀ f s', Q f s' → Q' f s') → wpAny M A t Q' E' s) : wpAny M A t Q E s := h Q E fun _ _ x => x
theorem b2a_ok (w : World) (b0 b1 b2 b3 b4 b5 : UInt8) (t : Tok) : Pure w 3 132 [.bytes #[b0, b1, b2, b3, b4, b5] t] [(Str.ofString "newline", .bool false)] (fun _ => True) (fun t => .bytes (BA (List.foldl encStep ([], 0, 0) [b0.toNat, b1.toNat, b2.toNat, b3.toNat, b4.toNat, b5.toNat]).1) t) := by
  ((((w_top off; intro p loose mean mg mb dp un gd cn cs a ccd cl outer A₀ base h₀ L m s Q E B F X T hk hpre hdp hun hret; ((have hfill : (fun (_ : OpenLaw) (_ : Params → Frag) => True) PySem.Challenge.rw_om0013_01 KK := (by k_fill; trivial); clear hfill)))); ((refine wpAny_call ?_; k_dflt (refine' enter0 ?k1 ?k2 ?k3 ?k5 rfl rfl (by assumption) ?k6 ?k7 ?k8 ?k9 ?kB ?_ ?c2 ?c3 ?c4 ?c5; (case k1 => k_asm); (case k2 => k_asm); (case k3 => k_asm); (case k5 => k_asm); (case k6 => k_is); (case k7 => k_is); (case k8 => ktr_room); (case k9 => (first | exact BindsTo.of_eq rfl | exact binds_K (by k_in) rfl (by k_is) rfl rfl rfl)); (case c5 => decide); (case kB => exact locs rfl); (case c2 => exact rfl); (case c3 => exact rfl); (case c4 => exact rfl); k_whole); intro g9 L9 h9 kp9 F9 N9 B9 X9 T9; (((try dsimp only); (try k_fold)))))))
  (repeat' (first | ((k_unfold; (try dsimp only))) | (((with_reducible show wpAny _ _ (subscriptTail _ _ (Value.bytes (List.toArray _) _) (Value.int (Builtin.bitAnd _ 63) _)) _ _ _); (refine KBy.item_N (by kby_size) (ba63 _).1 (ba63 _).2 ?_))) | (((with_reducible show wpAny _ _ (call (Value.type "type") [Value.bytes _ _]) _ _ _); refine type_bytes ?_)) | (((with_reducible show wpAny _ _ (call (Value.type "type") [Value.bool _]) _ _ _); refine type_bool ?_)) | ((fail_if_success (with_reducible show wpAny _ _ (exec (Stmt.While _ _ _ _) _) _ _ _)); (((fail_if_success (with_reducible show wpAny _ _ (pyIter _) _ _ _)); (fail_if_success (with_reducible show wpAny _ _ (exec (Stmt.For _ _ _ _ _) _) _ _ _)); (fail_if_success (with_reducible show wpAny _ _ (eval (Expr.ListComp _ _ _ _) _) _ _ _)); (fail_if_success (with_reducible show wpAny _ _ (exec (Stmt.Assign _ (Expr.ListComp _ _ _ _) _) _) _ _ _)); walk1; (try dsimp only)))) | dsimp only))
  rename Fr _ _ _ _ => F0
  refine For_invVF F0 rfl rfl ?_
  (repeat' (first | ((k_unfold; (try dsimp only))) | (((with_reducible show wpAny _ _ (subscriptTail _ _ (Value.bytes (List.toArray _) _) (Value.int (Builtin.bitAnd _ 63) _)) _ _ _); (refine KBy.item_N (by kby_size) (ba63 _).1 (ba63 _).2 ?_))) | (((with_reducible show wpAny _ _ (call (Value.type "type") [Value.bytes _ _]) _ _ _); refine type_bytes ?_)) | (((with_reducible show wpAny _ _ (call (Value.type "type") [Value.bool _]) _ _ _); refine type_bool ?_)) | ((fail_if_success (with_reducible show wpAny _ _ (exec (Stmt.While _ _ _ _) _) _ _ _)); (((fail_if_success (with_reducible show wpAny _ _ (pyIter _) _ _ _)); (fail_if_success (with_reducible show wpAny _ _ (exec (Stmt.For _ _ _ _ _) _) _ _ _)); (fail_if_success (with_reducible show wpAny _ _ (eval (Expr.ListComp _ _ _ _) _) _ _ _)); (fail_if_success (with_reducible show wpAny _ _ (exec (Stmt.Assign _ (Expr.ListComp _ _ _ _) _) _) _ _ _)); walk1; (try dsimp only)))) | dsimp only))
  rename News _ _ _ _ => N0
  refine mbytes (σ := (List Value × Nat) × (Int × Tok) × (Int × Tok)) (fun c => [(_, listOf c.1.1.toArray c.1.2)]) (fun c => [(Str.ofString "leftbits", .int c.2.1.1 c.2.1.2), (Str.ofString "leftchar", .int c.2.2.1 c.2.2.2)]) [] (fun pre c => EncI pre c.1.1 c.2.1.1 c.2.2.1) (([], 0), (0, _), (0, _)) rfl rfl rfl F0 N0 (by kst_all) ?hp ?_ ?_
  case hp => exact ⟨[], 0, 0, .nil, rfl, rfl, by decide, by decide, by decide, rfl⟩
  · clear F0 N0
    rintro ⟨⟨vals, nn⟩, ⟨lb, t1⟩, ⟨lc, t2⟩⟩ pre post n tn u h tk own hks hlt hn0 hn1 hoff hI F1 N1
    simp only [kstB, List.contains_nil, Bool.false_eq_true, if_false, List.cons_append, List.nil_append, List.map_cons, List.map_nil] at hI F1 N1 hoff ⊢
    have hMk9 := kstMark
    obtain ⟨o, b, c, hv, rfl, rfl, hb, hc, hol, he⟩ := hI
    have hvl : vals.length ≤ 12 := by
      have h1 := IntsAre.length hv
      rw [List.length_map] at h1
      have h2 : pre.length < 6 := hlt
      omega
    rcases hb with rfl | rfl | rfl
    · refine wpAny_q fun QB hQB => ?_
      (repeat' (first | ((k_unfold; (try dsimp only))) | (((with_reducible show wpAny _ _ (subscriptTail _ _ (Value.bytes (List.toArray _) _) (Value.int (Builtin.bitAnd _ 63) _)) _ _ _); (refine KBy.item_N (by kby_size) (ba63 _).1 (ba63 _).2 ?_))) | (((with_reducible show wpAny _ _ (call (Value.type "type") [Value.bytes _ _]) _ _ _); refine type_bytes ?_)) | (((with_reducible show wpAny _ _ (call (Value.type "type") [Value.bool _]) _ _ _); refine type_bool ?_)) | (((fail_if_success (with_reducible show wpAny _ _ (pyIter _) _ _ _)); (fail_if_success (with_reducible show wpAny _ _ (exec (Stmt.For _ _ _ _ _) _) _ _ _)); (fail_if_success (with_reducible show wpAny _ _ (eval (Expr.ListComp _ _ _ _) _) _ _ _)); (fail_if_success (with_reducible show wpAny _ _ (exec (Stmt.Assign _ (Expr.ListComp _ _ _ _) _) _) _ _ _)); walk1; (try dsimp only))) | dsimp only))
      rename Fr _ _ _ _ => F2
      rename News _ _ _ _ => N2
      simp only [List.push_toArray] at N2
      refine hQB _ _ ?_
      exact tpost_end ((_, _), (_, _), (_, _)) F2 N2 (fun p hp => by rw [List.mem_singleton.mp hp]; exact .head _) (fun p hp => .tail _ hp) rfl (by kst_all) (by kst_same) (enc_zero hv hol he hn0 hn1)
    · refine wpAny_q fun QB hQB => ?_
      (repeat' (first | ((k_unfold; (try dsimp only))) | (((with_reducible show wpAny _ _ (subscriptTail _ _ (Value.bytes (List.toArray _) _) (Value.int (Builtin.bitAnd _ 63) _)) _ _ _); (refine KBy.item_N (by kby_size) (ba63 _).1 (ba63 _).2 ?_))) | (((with_reducible show wpAny _ _ (call (Value.type "type") [Value.bytes _ _]) _ _ _); refine type_bytes ?_)) | (((with_reducible show wpAny _ _ (call (Value.type "type") [Value.bool _]) _ _ _); refine type_bool ?_)) | (((fail_if_success (with_reducible show wpAny _ _ (pyIter _) _ _ _)); (fail_if_success (with_reducible show wpAny _ _ (exec (Stmt.For _ _ _ _ _) _) _ _ _)); (fail_if_success (with_reducible show wpAny _ _ (eval (Expr.ListComp _ _ _ _) _) _ _ _)); (fail_if_success (with_reducible show wpAny _ _ (exec (Stmt.Assign _ (Expr.ListComp _ _ _ _) _) _) _ _ _)); walk1; (try dsimp only))) | dsimp only))
      rename Fr _ _ _ _ => F2
      rename News _ _ _ _ => N2
      simp only [List.push_toArray] at N2
      refine hQB _ _ ?_
      exact tpost_end ((_, _), (_, _), (_, _)) F2 N2 (fun p hp => by rw [List.mem_singleton.mp hp]; exact .head _) (fun p hp => .tail _ hp) rfl (by kst_all) (by kst_same) (enc_two hv hol he hn0 hn1)
    · refine wpAny_q fun QB hQB => ?_
      (repeat' (first | ((k_unfold; (try dsimp only))) | (((with_reducible show wpAny _ _ (subscriptTail _ _ (Value.bytes (List.toArray _) _) (Value.int (Builtin.bitAnd _ 63) _)) _ _ _); (refine KBy.item_N (by kby_size) (ba63 _).1 (ba63 _).2 ?_))) | (((with_reducible show wpAny _ _ (call (Value.type "type") [Value.bytes _ _]) _ _ _); refine type_bytes ?_)) | (((with_reducible show wpAny _ _ (call (Value.type "type") [Value.bool _]) _ _ _); refine type_bool ?_)) | (((fail_if_success (with_reducible show wpAny _ _ (pyIter _) _ _ _)); (fail_if_success (with_reducible show wpAny _ _ (exec (Stmt.For _ _ _ _ _) _) _ _ _)); (fail_if_success (with_reducible show wpAny _ _ (eval (Expr.ListComp _ _ _ _) _) _ _ _)); (fail_if_success (with_reducible show wpAny _ _ (exec (Stmt.Assign _ (Expr.ListComp _ _ _ _) _) _) _ _ _)); walk1; (try dsimp only))) | dsimp only))
      rename Fr _ _ _ _ => F2
      rename News _ _ _ _ => N2
      simp only [List.push_toArray] at N2
      refine hQB _ _ ?_
      exact tpost_end ((_, _), (_, _), (_, _)) F2 N2 (fun p hp => by rw [List.mem_singleton.mp hp]; exact .head _) (fun p hp => .tail _ hp) rfl (by kst_all) (by kst_same) (enc_four hv hol he hn0 hn1)
  · clear F0 N0
    rintro ⟨⟨vals, nn⟩, ⟨lb, t1⟩, ⟨lc, t2⟩⟩ u h tk hI F1 N1
    simp only [kstB, List.contains_nil, Bool.false_eq_true, if_false] at hI F1 N1 ⊢
    obtain ⟨o, b, c, hv, rfl, rfl, hb, hc, hol, he⟩ := hI
    have hb0 : b = 0 := by
      have := congrArg (fun x => x.2.1) he
      exact this.symm
    subst hb0
    (repeat' (first | ((k_unfold; (try dsimp only))) | (((with_reducible show wpAny _ _ (subscriptTail _ _ (Value.bytes (List.toArray _) _) (Value.int (Builtin.bitAnd _ 63) _)) _ _ _); (refine KBy.item_N (by kby_size) (ba63 _).1 (ba63 _).2 ?_))) | (((with_reducible show wpAny _ _ (call (Value.type "type") [Value.bytes _ _]) _ _ _); refine type_bytes ?_)) | (((with_reducible show wpAny _ _ (call (Value.type "type") [Value.bool _]) _ _ _); refine type_bool ?_)) | ((fail_if_success (with_reducible show wpAny _ _ (exec (Stmt.While _ _ _ _) _) _ _ _)); (((fail_if_success (with_reducible show wpAny _ _ (pyIter _) _ _ _)); (fail_if_success (with_reducible show wpAny _ _ (exec (Stmt.For _ _ _ _ _) _) _ _ _)); (fail_if_success (with_reducible show wpAny _ _ (eval (Expr.ListComp _ _ _ _) _) _ _ _)); (fail_if_success (with_reducible show wpAny _ _ (exec (Stmt.Assign _ (Expr.ListComp _ _ _ _) _) _) _ _ _)); walk1; (try dsimp only)))) | dsimp only))
    rename Fr _ _ _ _ => F2
    rename News _ _ _ _ => N2
    have ho := congrArg Prod.fst he
    dsimp only at ho
    refine bytes_K F2 N2 ?l hv ?_ ?_ ?hh ?_
    case l => exact ⟨_, (N2 _ (.head _)).1, rfl, _, rfl⟩
    case hh => exact rfl
    · intro n hn
      obtain ⟨k, hk, rfl⟩ := List.mem_map.mp hn
      have := enc_lt _ ([], 0, 0) (fun _ h => nomatch h) k (ho ▸ hk)
      exact ⟨Int.natCast_nonneg _, by simp only [Int.ofNat_eq_natCast]; omega⟩
    · rw [IntsAre.length hv, List.length_map]
      have h6 : (KBw.bInts #[b0, b1, b2, b3, b4, b5]).length = 6 := rfl
      rw [h6] at hol
      rw [sizeLine_eq]; omega
    · intro h3 t3 k3 F3 N3 _
      dsimp only
      k_unfold
      dsimp only
      rename ∀ (t : Tok) (h' : Heap) (tk' : Nat), Kp _ _ → _ => hr9
      refine end_bytes' hr9 (by assumption) F3 rfl ?_
      rw [ba_ofNat, ← ho]; rfl
theorem enc3 (o : List Nat) (c q : Nat) : ∃ c', List.foldl encStep (o, 0, c) [q / 65536 % 256, q / 256 % 256, q % 256] = (o ++ [sg (q / 262144 % 64), sg (q / 4096 % 64), sg (q / 64 % 64), sg (q % 64)], 0, c') := by
  refine ⟨(((c * 256 + q / 65536 % 256) % 65536 * 256 + q / 256 % 256) % 65536 * 256 + q % 256) % 65536, ?_⟩
  simp only [List.foldl_cons, List.foldl_nil, encStep]
  simp only [if_true, reduceIte, Nat.reduceEqDiff, List.append_assoc, List.cons_append, List.nil_append]
  have e1 : (c * 256 + q / 65536 % 256) % 65536 / 4 % 64 = q / 262144 % 64 := by omega
  have e2 : ((c * 256 + q / 65536 % 256) % 65536 * 256 + q / 256 % 256) % 65536 / 16 % 64 = q / 4096 % 64 := by omega
  have e3 : (((c * 256 + q / 65536 % 256) % 65536 * 256 + q / 256 % 256) % 65536 * 256 + q % 256) % 65536 / 64 % 64 = q / 64 % 64 := by omega
  have e4 : (((c * 256 + q / 65536 % 256) % 65536 * 256 + q / 256 % 256) % 65536 * 256 + q % 256) % 65536 % 64 = q % 64 := by omega
  rw [e1, e2, e3, e4]
theorem b64_eq (R : Nat) (h : R < 281474976710656) : (List.foldl encStep ([], 0, 0) (octN R)).1 = txtN R := by
  obtain ⟨c1, h1⟩ := enc3 [] 0 (R / 16777216)
  obtain ⟨c2, h2⟩ := enc3 ([] ++ [sg (R / 16777216 / 262144 % 64), sg (R / 16777216 / 4096 % 64), sg (R / 16777216 / 64 % 64), sg (R / 16777216 % 64)]) c1 R
  have e : octN R = [R / 16777216 / 65536 % 256, R / 16777216 / 256 % 256, R / 16777216 % 256] ++ [R / 65536 % 256, R / 256 % 256, R % 256] := by
    simp only [Nat.div_div_eq_div_mul]; rfl
  rw [e, List.foldl_append, h1, h2]
  simp only [Nat.div_div_eq_div_mul]; rfl
theorem b2a_oct (w : World) (R : Nat) (h : R < 281474976710656) (t : Tok) : Pure w 3 132 [.bytes (BA (octN R)) t] [(Str.ofString "newline", .bool false)] (fun _ => True) (fun t => .bytes (BA (txtN R)) t) := by
  have := b2a_ok w (R / 1099511627776 % 256).toUInt8 (R / 4294967296 % 256).toUInt8 (R / 16777216 % 256).toUInt8 (R / 65536 % 256).toUInt8 (R / 256 % 256).toUInt8 (R % 256).toUInt8 t
  have e (x : Nat) : (x % 256).toUInt8.toNat = x % 256 := by simp
  rw [e, e, e, e, e, e] at this
  have h2 : (List.foldl encStep ([], 0, 0) [R / 1099511627776 % 256, R / 4294967296 % 256, R / 16777216 % 256, R / 65536 % 256, R / 256 % 256, R % 256]).1 = txtN R := b64_eq R h
  rw [h2] at this
  exact this
theorem b64_ok (w : World) (R : Nat) (h : R < 281474976710656) (t : Tok) : Pure w 4 140 [.bytes (BA (octN R)) t] [] (fun _ => True) (fun t => .bytes (BA (txtN R)) t) := by
  ((((w_top off; intro p loose mean mg mb dp un gd cn cs a ccd cl outer A₀ base h₀ L m s Q E B F X T hk hpre hdp hun hret; ((have hfill : (fun (_ : OpenLaw) (_ : Params → Frag) => True) PySem.Challenge.rw_om0013_01 KK := (by k_fill; trivial); clear hfill)))); ((refine wpAny_call ?_; k_dflt (refine' enter0 ?k1 ?k2 ?k3 ?k5 rfl rfl (by assumption) ?k6 ?k7 ?k8 ?k9 ?kB ?_ ?c2 ?c3 ?c4 ?c5; (case k1 => k_asm); (case k2 => k_asm); (case k3 => k_asm); (case k5 => k_asm); (case k6 => k_is); (case k7 => k_is); (case k8 => ktr_room); (case k9 => (first | exact BindsTo.of_eq rfl | exact binds_K (by k_in) rfl (by k_is) rfl rfl rfl)); (case c5 => decide); (case kB => exact locs rfl); (case c2 => exact rfl); (case c3 => exact rfl); (case c4 => exact rfl); k_whole); intro g9 L9 h9 kp9 F9 N9 B9 X9 T9; (((try dsimp only); (try k_fold)))))))
  (repeat' (first | ((k_unfold; (try dsimp only))) | ((((with_reducible show wpAny _ _ (call (Value.ref 132) _ _) _ _ _); (k_dflt (refine' Pure.use (b2a_oct _ _ (by assumption) _) ?k1 ?k2 ?k3 ?k4 ?k5 ?kK ?kp ?kd ?ku ?_; (case k1 => k_asm); (case k2 => k_asm); (case k3 => k_asm); (case k4 => k_asm); (case k5 => k_asm); (case kK => first | exact rfl | assumption); (case kp => first | trivial | assumption | exact TabAt.keep (by assumption) (Fr.keep (by assumption))); (case kd => ktr_room); (case ku => ktr_units))); ((intro t8 h8 tk8 F8 N8; (((try dsimp only); (try k_fold)))))))) | ((fail_if_success (with_reducible show wpAny _ _ (exec (Stmt.While _ _ _ _) _) _ _ _)); (((fail_if_success (with_reducible show wpAny _ _ (pyIter _) _ _ _)); (fail_if_success (with_reducible show wpAny _ _ (exec (Stmt.For _ _ _ _ _) _) _ _ _)); (fail_if_success (with_reducible show wpAny _ _ (eval (Expr.ListComp _ _ _ _) _) _ _ _)); (fail_if_success (with_reducible show wpAny _ _ (exec (Stmt.Assign _ (Expr.ListComp _ _ _ _) _) _) _ _ _)); walk1; (try dsimp only)))) | dsimp only))
  rename ∀ (t : Tok) (h' : Heap) (tk' : Nat), Kp _ _ → _ => hr9
  rename Fr _ _ _ _ => F9
  exact end_bytes' hr9 (by assumption) F9 rfl rfl
noncomputable def S (r : Nat) : Nat := if 4095 < r * 2 then (r * 2) ^^^ 6159 else r * 2
noncomputable def restF : Nat → Nat → Nat → Nat → Nat
  | 0, r, _, _ => r
  | n + 1, r, w, l => restF n (if l % 2 = 1 then r ^^^ w else r) (S w) (l / 2)
noncomputable def blindF : Nat → Nat → Nat → Nat → Nat
  | 0, r, _, _ => r
  | n + 1, r, w, l => blindF n (if l % 2 = 1 then r ^^^ w else r) (w * 2) (l / 2)
theorem restF_zero (r w : Nat) : ∀ n, restF n r w 0 = r := by
  intro n; induction n generalizing w with
  | zero => rfl
  | succ n ih => simp only [restF]; simpa using ih (S w)
theorem blindF_zero (r w : Nat) : ∀ n, blindF n r w 0 = r := by
  intro n; induction n generalizing w with
  | zero => rfl
  | succ n ih => simp only [blindF]; simpa using ih (w * 2)
/-- the while loop's word -/
noncomputable def RestI (f : Nat → Nat → Nat → Nat → Nat) (z : Nat) (rest weight left : Int) : Prop := ∃ r w l n : Nat, rest = r ∧ weight = w ∧ left = l ∧ l < 2 ^ n ∧ f n r w l = z
theorem half_lt {l n : Nat} (h : l < 2 ^ (n + 1)) : l / 2 < 2 ^ n := by rw [Nat.pow_succ] at h; omega
theorem restI_step {z : Nat} {rest weight left : Int} (h : RestI restF z rest weight left) (hl : 0 < left) :
    RestI restF z (if left.fmod 2 = 1 then Builtin.bitXor rest weight else rest) (if 4095 < weight * 2 then Builtin.bitXor (weight * 2) 6159 else weight * 2) (left.fdiv 2) := by
  obtain ⟨r, w, l, n, rfl, rfl, rfl, hn, he⟩ := h
  cases n with
  | zero => simp at hn; omega
  | succ n =>
    refine ⟨if l % 2 = 1 then r ^^^ w else r, S w, l / 2, n, ?_, ?_, (Int.ofNat_fdiv l 2).symm, half_lt hn, he⟩
    · have : ((l : Int).fmod 2 = 1) ↔ l % 2 = 1 := by rw [Int.fmod_eq_emod_of_nonneg _ (by decide)]; omega
      simp only [this]; split
      · exact bx _ _
      · rfl
    · unfold S
      have : (4095 < (w : Int) * 2) ↔ 4095 < w * 2 := by omega
      simp only [this]; split
      · exact_mod_cast bx (w * 2) 6159
      · simp
theorem blindI_step {z : Nat} {rest weight left : Int} (h : RestI blindF z rest weight left) (hl : 0 < left) :
    RestI blindF z (if left.fmod 2 = 1 then Builtin.bitXor rest weight else rest) (weight * 2) (left.fdiv 2) := by
  obtain ⟨r, w, l, n, rfl, rfl, rfl, hn, he⟩ := h
  cases n with
  | zero => simp at hn; omega
  | succ n =>
    refine ⟨if l % 2 = 1 then r ^^^ w else r, w * 2, l / 2, n, ?_, ?_, (Int.ofNat_fdiv l 2).symm, half_lt hn, he⟩
    · have : ((l : Int).fmod 2 = 1) ↔ l % 2 = 1 := by rw [Int.fmod_eq_emod_of_nonneg _ (by decide)]; omega
      simp only [this]; split
      · exact bx _ _
      · rfl
    · simp
theorem fdiv_less {l : Int} (h : 0 < l) : (l.fdiv 2).toNat < l.toNat := by
  obtain ⟨k, rfl⟩ := Int.eq_ofNat_of_zero_le (Int.le_of_lt h)
  have := Int.ofNat_fdiv k 2
  have e : (Int.fdiv (k : Int) 2) = ((k / 2 : Nat) : Int) := this.symm
  rw [e]; omega
theorem rest_ok (w : World) (row : Int) (t : Tok) (h0 : 0 ≤ row) (h1 : row < 2 ^ 48) : Pure w 1 164 [.int row t] [] (fun _ => True) (fun t => .int (restF 48 0 2063 row.toNat : Nat) t) := by
  ((((w_top off; intro p loose mean mg mb dp un gd cn cs a ccd cl outer A₀ base h₀ L m s Q E B F X T hk hpre hdp hun hret; ((have hfill : (fun (_ : OpenLaw) (_ : Params → Frag) => True) PySem.Challenge.rw_om0013_01 KK := (by k_fill; trivial); clear hfill)))); ((refine wpAny_call ?_; k_dflt (refine' enter0 ?k1 ?k2 ?k3 ?k5 rfl rfl (by assumption) ?k6 ?k7 ?k8 ?k9 ?kB ?_ ?c2 ?c3 ?c4 ?c5; (case k1 => k_asm); (case k2 => k_asm); (case k3 => k_asm); (case k5 => k_asm); (case k6 => k_is); (case k7 => k_is); (case k8 => ktr_room); (case k9 => (first | exact BindsTo.of_eq rfl | exact binds_K (by k_in) rfl (by k_is) rfl rfl rfl)); (case c5 => decide); (case kB => exact locs rfl); (case c2 => exact rfl); (case c3 => exact rfl); (case c4 => exact rfl); k_whole); intro g9 L9 h9 kp9 F9 N9 B9 X9 T9; (((try dsimp only); (try k_fold)))))))
  (repeat' (first | ((k_unfold; (try dsimp only))) | ((fail_if_success (with_reducible show wpAny _ _ (exec (Stmt.While _ _ _ _) _) _ _ _)); (((fail_if_success (with_reducible show wpAny _ _ (pyIter _) _ _ _)); (fail_if_success (with_reducible show wpAny _ _ (exec (Stmt.For _ _ _ _ _) _) _ _ _)); (fail_if_success (with_reducible show wpAny _ _ (eval (Expr.ListComp _ _ _ _) _) _ _ _)); (fail_if_success (with_reducible show wpAny _ _ (exec (Stmt.Assign _ (Expr.ListComp _ _ _ _) _) _) _ _ _)); walk1; (try dsimp only)))) | dsimp only))
  rename Fr _ _ _ _ => F0
  rename News _ _ _ _ => N0
  refine mwhile (σ := (Int × Int × Int) × (Tok × Tok × Tok)) (fun _ => []) (fun c => [(Str.ofString "rest", .int c.1.1 c.2.1), (Str.ofString "weight", .int c.1.2.1 c.2.2.1), (Str.ofString "left", .int c.1.2.2 c.2.2.2)]) [] (fun c => RestI restF (restF 48 0 2063 row.toNat) c.1.1 c.1.2.1 c.1.2.2) (fun c => c.1.2.2.toNat) ((0, 2063, row), (_, _, _)) F0 N0 (by kst_all) ?hp ?_
  case hp => exact ⟨0, 2063, row.toNat, 48, rfl, rfl, by dsimp only; omega, by omega, rfl⟩
  clear F0 N0
  rintro ⟨⟨r, wt, l⟩, ⟨t1, t2, t3⟩⟩ u h tk QB hQB hI F1 N1
  simp only [kstB, List.contains_nil, Bool.false_eq_true, if_false] at hI F1 N1 ⊢
  (repeat' (first | ((k_unfold; (try dsimp only))) | ((fail_if_success (with_reducible show wpAny _ _ (exec (Stmt.While _ _ _ _) _) _ _ _)); (((fail_if_success (with_reducible show wpAny _ _ (pyIter _) _ _ _)); (fail_if_success (with_reducible show wpAny _ _ (exec (Stmt.For _ _ _ _ _) _) _ _ _)); (fail_if_success (with_reducible show wpAny _ _ (eval (Expr.ListComp _ _ _ _) _) _ _ _)); (fail_if_success (with_reducible show wpAny _ _ (exec (Stmt.Assign _ (Expr.ListComp _ _ _ _) _) _) _ _ _)); walk1; (try dsimp only)))) | dsimp only))
  all_goals first
    | (have hS := restI_step hI (by assumption)
       simp only [*, if_true, if_false] at hS
       refine hQB _ _ ?_
       exact mwhile_end ((_, _, _), (_, _, _)) (by assumption) (by assumption) (by kst_all) (by ksw_same) hS (fdiv_less (by assumption)))
    | (have hl : l = 0 := by obtain ⟨r, w, l, n, _, _, rfl, _⟩ := hI; omega
       rename Fr _ _ _ _ => F2
       subst hl
       refine end_int' (by assumption) (by assumption) F2 rfl ?_
       obtain ⟨r', w', l', n', rfl, rfl, hl, _, he⟩ := hI
       obtain rfl : l' = 0 := by omega
       rw [restF_zero] at he
       rw [he])
theorem blind_ok (w : World) (row : Int) (t : Tok) (h0 : 0 ≤ row) (h1 : row < 2 ^ 36) : Pure w 1 171 [.int row t] [] (fun _ => True) (fun t => .int (blindF 36 0 6159 row.toNat : Nat) t) := by
  ((((w_top off; intro p loose mean mg mb dp un gd cn cs a ccd cl outer A₀ base h₀ L m s Q E B F X T hk hpre hdp hun hret; ((have hfill : (fun (_ : OpenLaw) (_ : Params → Frag) => True) PySem.Challenge.rw_om0013_01 KK := (by k_fill; trivial); clear hfill)))); ((refine wpAny_call ?_; k_dflt (refine' enter0 ?k1 ?k2 ?k3 ?k5 rfl rfl (by assumption) ?k6 ?k7 ?k8 ?k9 ?kB ?_ ?c2 ?c3 ?c4 ?c5; (case k1 => k_asm); (case k2 => k_asm); (case k3 => k_asm); (case k5 => k_asm); (case k6 => k_is); (case k7 => k_is); (case k8 => ktr_room); (case k9 => (first | exact BindsTo.of_eq rfl | exact binds_K (by k_in) rfl (by k_is) rfl rfl rfl)); (case c5 => decide); (case kB => exact locs rfl); (case c2 => exact rfl); (case c3 => exact rfl); (case c4 => exact rfl); k_whole); intro g9 L9 h9 kp9 F9 N9 B9 X9 T9; (((try dsimp only); (try k_fold)))))))
  (repeat' (first | ((k_unfold; (try dsimp only))) | ((fail_if_success (with_reducible show wpAny _ _ (exec (Stmt.While _ _ _ _) _) _ _ _)); (((fail_if_success (with_reducible show wpAny _ _ (pyIter _) _ _ _)); (fail_if_success (with_reducible show wpAny _ _ (exec (Stmt.For _ _ _ _ _) _) _ _ _)); (fail_if_success (with_reducible show wpAny _ _ (eval (Expr.ListComp _ _ _ _) _) _ _ _)); (fail_if_success (with_reducible show wpAny _ _ (exec (Stmt.Assign _ (Expr.ListComp _ _ _ _) _) _) _ _ _)); walk1; (try dsimp only)))) | dsimp only))
  rename Fr _ _ _ _ => F0
  rename News _ _ _ _ => N0
  refine mwhile (σ := (Int × Int × Int) × (Tok × Tok × Tok)) (fun _ => []) (fun c => [(Str.ofString "product", .int c.1.1 c.2.1), (Str.ofString "row", .int c.1.2.1 c.2.2.1), (Str.ofString "left", .int c.1.2.2 c.2.2.2)]) [] (fun c => RestI blindF (blindF 36 0 6159 row.toNat) c.1.1 c.1.2.1 c.1.2.2) (fun c => c.1.2.2.toNat) ((0, 6159, row), (_, _, _)) F0 N0 (by kst_all) ?hp ?_
  case hp => exact ⟨0, 6159, row.toNat, 36, rfl, rfl, by dsimp only; omega, by omega, rfl⟩
  clear F0 N0
  rintro ⟨⟨r, wt, l⟩, ⟨t1, t2, t3⟩⟩ u h tk QB hQB hI F1 N1
  simp only [kstB, List.contains_nil, Bool.false_eq_true, if_false] at hI F1 N1 ⊢
  (repeat' (first | ((k_unfold; (try dsimp only))) | ((fail_if_success (with_reducible show wpAny _ _ (exec (Stmt.While _ _ _ _) _) _ _ _)); (((fail_if_success (with_reducible show wpAny _ _ (pyIter _) _ _ _)); (fail_if_success (with_reducible show wpAny _ _ (exec (Stmt.For _ _ _ _ _) _) _ _ _)); (fail_if_success (with_reducible show wpAny _ _ (eval (Expr.ListComp _ _ _ _) _) _ _ _)); (fail_if_success (with_reducible show wpAny _ _ (exec (Stmt.Assign _ (Expr.ListComp _ _ _ _) _) _) _ _ _)); walk1; (try dsimp only)))) | dsimp only))
  all_goals first
    | (have hS := blindI_step hI (by assumption)
       simp only [*, if_true, if_false] at hS
       refine hQB _ _ ?_
       exact mwhile_end ((_, _, _), (_, _, _)) (by assumption) (by assumption) (by kst_all) (by ksw_same) hS (fdiv_less (by assumption)))
    | (have hl : l = 0 := by obtain ⟨r, w, l, n, _, _, rfl, _⟩ := hI; omega
       rename Fr _ _ _ _ => F2
       subst hl
       refine end_int' (by assumption) (by assumption) F2 rfl ?_
       obtain ⟨r', w', l', n', rfl, rfl, hl, _, he⟩ := hI
       obtain rfl : l' = 0 := by omega
       rw [blindF_zero] at he
       rw [he])
noncomputable def figD : List (PyData × PyData) := (List.range 64).map fun k => (PyData.int (sg k), PyData.int k)
noncomputable def figChk (k : Nat) : Bool := match PySem.Spec.lookup (.int (sg k : Nat)) figD with | some (.int j) => j == (k : Int) | _ => false
theorem fig_chk : ∀ k, k < 64 → figChk k = true := by decide +kernel
theorem fig_look (k : Nat) (h : k < 64) : PySem.Spec.lookup (.int (sg k : Nat)) figD = some (PyData.int (k : Nat)) := by
  have := fig_chk k h
  unfold figChk at this
  split at this
  · rename_i j e; rw [e, beq_iff_eq.mp this]
  · cases this
noncomputable def stp (r : Nat) : Nat := if r / 2048 = 1 then ((r * 2 ^^^ 2063) ||| 57344) &&& 4095 else (r * 2 ||| 57344) &&& 4095
noncomputable def it (n : Nat) (r : Nat) : Nat := match n with | 0 => r | n + 1 => stp (it n r)
noncomputable def chunk (r f : Nat) : Nat := it 6 (r ^^^ (f * 64))
noncomputable def runF (fs : List Nat) : Nat := fs.foldl chunk 0
theorem get_ok (w : World) (fg : Addr) (f : Nat) (hf : f < 64) (t : Tok) : Pure w 1 110 [.ref fg, .int (sg f : Nat) t] [] (fun h => IntTab Pg w h fg figD) (fun t => .int (f : Nat) t) := by
  ((((w_top off; intro p loose mean mg mb dp un gd cn cs a ccd cl outer A₀ base h₀ L m s Q E B F X T hk hpre hdp hun hret; ((have hfill : (fun (_ : OpenLaw) (_ : Params → Frag) => True) PySem.Challenge.rw_om0013_01 KK := (by k_fill; trivial); clear hfill)))); ((refine wpAny_call ?_; k_dflt (refine' enter0 ?k1 ?k2 ?k3 ?k5 rfl rfl (by assumption) ?k6 ?k7 ?k8 ?k9 ?kB ?_ ?c2 ?c3 ?c4 ?c5; (case k1 => k_asm); (case k2 => k_asm); (case k3 => k_asm); (case k5 => k_asm); (case k6 => k_is); (case k7 => k_is); (case k8 => ktr_room); (case k9 => (first | exact BindsTo.of_eq rfl | exact binds_K (by k_in) rfl (by k_is) rfl rfl rfl)); (case c5 => decide); (case kB => exact locs rfl); (case c2 => exact rfl); (case c3 => exact rfl); (case c4 => exact rfl); k_whole); intro g9 L9 h9 kp9 F9 N9 B9 X9 T9; (((try dsimp only); (try k_fold)))))))
  rename IntTab _ _ _ _ _ => hT
  rename Kp _ _ => kp
  have hT9 := TabAt.keep hT kp
  clear hT
  (repeat' (first | ((k_unfold; (try dsimp only))) | ((((with_reducible show wpAny _ _ (call (Value.ref 110) _ _) _ _ _); (k_dflt (refine' Pure.use (get_ok _ _ _ (by assumption) _) ?k1 ?k2 ?k3 ?k4 ?k5 ?kK ?kp ?kd ?ku ?_; (case k1 => k_asm); (case k2 => k_asm); (case k3 => k_asm); (case k4 => k_asm); (case k5 => k_asm); (case kK => first | exact rfl | assumption); (case kp => first | trivial | assumption | exact TabAt.keep (by assumption) (Fr.keep (by assumption))); (case kd => ktr_room); (case ku => ktr_units))); ((intro t8 h8 tk8 F8 N8; (((try dsimp only); (try k_fold)))))))) | ((fail_if_success (with_reducible show wpAny _ _ (exec (Stmt.While _ _ _ _) _) _ _ _)); (((fail_if_success (with_reducible show wpAny _ _ (pyIter _) _ _ _)); (fail_if_success (with_reducible show wpAny _ _ (exec (Stmt.For _ _ _ _ _) _) _ _ _)); (fail_if_success (with_reducible show wpAny _ _ (eval (Expr.ListComp _ _ _ _) _) _ _ _)); (fail_if_success (with_reducible show wpAny _ _ (exec (Stmt.Assign _ (Expr.ListComp _ _ _ _) _) _) _ _ _)); walk1; (try dsimp only)))) | dsimp only))
  all_goals (rename PySem.Spec.lookup _ _ = _ => hl8; rw [fig_look f hf] at hl8; cases hl8)
  rename PyProof.V.Flat _ _ => hv8
  rename Fr _ _ _ _ => F0
  rename Kp _ _ => kp
  have hv7 := hv8 (default : Heap)
  clear hv8
  cases hv7
  rename ∀ (t : Tok) (h' : Heap) (tk' : Nat), Kp _ _ → _ => hr9
  exact end_int' hr9 kp F0 rfl rfl
theorem stp_lt (r : Nat) : stp r < 4096 := by
  unfold stp
  split <;> exact Nat.lt_of_le_of_lt Nat.and_le_right (by decide)
theorem it_lt (n r : Nat) (h : r < 4096) : it n r < 4096 := by
  cases n with
  | zero => exact h
  | succ n => exact stp_lt _
theorem chunk_lt (r f : Nat) : chunk r f < 4096 := stp_lt _
theorem run_lt : ∀ (fs : List Nat) (r : Nat), r < 4096 → fs.foldl chunk r < 4096
  | [], _, h => h
  | f :: fs, r, _ => run_lt fs _ (chunk_lt r f)
theorem split_fig {fs : List Nat} {pre post : List Int} {n : Int} (h : fs.map (fun f => ((sg f : Nat) : Int)) = pre ++ n :: post) : ∃ f ∈ fs, n = (sg f : Nat) ∧ fs.take (pre ++ [n]).length = fs.take pre.length ++ [f] := by
  have h1 := congrArg (fun l => l[pre.length]?) h
  simp only [List.getElem?_map, List.getElem?_append_right (Nat.le_refl _), Nat.sub_self, List.getElem?_cons_zero] at h1
  cases e : fs[pre.length]? with
  | none => rw [e] at h1; cases h1
  | some f =>
    rw [e] at h1
    refine ⟨f, List.mem_of_getElem? e, (Option.some.inj h1).symm, ?_⟩
    rw [List.length_append, List.length_cons, List.length_nil, List.take_add_one, e]; rfl
theorem bi_sg (fs : List Nat) : KBw.bInts (BA (fs.map sg)) = fs.map (fun f => ((sg f : Nat) : Int)) := by
  unfold KBw.bInts BA
  simp only [List.map_map]
  apply List.map_congr_left
  intro f _
  simp only [Function.comp]
  have := sg_lt f
  rw [UInt8.toNat_ofNat_of_lt' (by simpa using this)]
theorem run_turn1 {k : Nat} (h : ((k : Int).fdiv (2 ^ Int.toNat 11)) = 1) : Builtin.bitAnd (Builtin.bitOr (Builtin.bitXor ((k : Int) * 2 ^ Int.toNat 1) 2063) 57344) 4095 = (stp k : Nat) := by
  have e1 : ((k : Int) * 2 ^ Int.toNat 1) = ((k * 2 : Nat) : Int) := by
    have : ((2 : Int) ^ Int.toNat 1) = 2 := by decide
    rw [this]; omega
  have e2 : ((2 : Int) ^ Int.toNat 11) = ((2048 : Nat) : Int) := by decide
  rw [e2, Int.fdiv_eq_ediv_of_nonneg _ (Int.natCast_nonneg _)] at h
  have h' : k / 2048 = 1 := by omega
  unfold stp
  rw [if_pos h', e1, show (2063 : Int) = ((2063 : Nat) : Int) from rfl, show (57344 : Int) = ((57344 : Nat) : Int) from rfl, show (4095 : Int) = ((4095 : Nat) : Int) from rfl, bx, bo, ba]
theorem run_turn0 {k : Nat} (h : ¬ ((k : Int).fdiv (2 ^ Int.toNat 11)) = 1) : Builtin.bitAnd (Builtin.bitOr ((k : Int) * 2 ^ Int.toNat 1) 57344) 4095 = (stp k : Nat) := by
  have e1 : ((k : Int) * 2 ^ Int.toNat 1) = ((k * 2 : Nat) : Int) := by
    have : ((2 : Int) ^ Int.toNat 1) = 2 := by decide
    rw [this]; omega
  have e2 : ((2 : Int) ^ Int.toNat 11) = ((2048 : Nat) : Int) := by decide
  rw [e2, Int.fdiv_eq_ediv_of_nonneg _ (Int.natCast_nonneg _)] at h
  have h' : ¬ k / 2048 = 1 := by omega
  unfold stp
  rw [if_neg h', e1, show (57344 : Int) = ((57344 : Nat) : Int) from rfl, show (4095 : Int) = ((4095 : Nat) : Int) from rfl, bo, ba]
theorem run_head (r f : Nat) : Builtin.bitXor (r : Int) ((f : Int) * 2 ^ Int.toNat 6) = ((r ^^^ (f * 64) : Nat) : Int) := by
  have e1 : ((f : Int) * 2 ^ Int.toNat 6) = ((f * 64 : Nat) : Int) := by
    have : ((2 : Int) ^ Int.toNat 6) = 64 := by decide
    rw [this]; omega
  rw [e1, bx]
theorem run_ok (w : World) (fg : Addr) (fs : List Nat) (hfs : ∀ f ∈ fs, f < 64) (t : Tok) : Pure w 2 190 [.ref fg, .bytes (BA (fs.map sg)) t] [] (fun h => IntTab Pg w h fg figD) (fun t => .int (runF fs : Nat) t) := by
  ((((w_top off; intro p loose mean mg mb dp un gd cn cs a ccd cl outer A₀ base h₀ L m s Q E B F X T hk hpre hdp hun hret; ((have hfill : (fun (_ : OpenLaw) (_ : Params → Frag) => True) PySem.Challenge.rw_om0013_01 KK := (by k_fill; trivial); clear hfill)))); ((refine wpAny_call ?_; k_dflt (refine' enter0 ?k1 ?k2 ?k3 ?k5 rfl rfl (by assumption) ?k6 ?k7 ?k8 ?k9 ?kB ?_ ?c2 ?c3 ?c4 ?c5; (case k1 => k_asm); (case k2 => k_asm); (case k3 => k_asm); (case k5 => k_asm); (case k6 => k_is); (case k7 => k_is); (case k8 => ktr_room); (case k9 => (first | exact BindsTo.of_eq rfl | exact binds_K (by k_in) rfl (by k_is) rfl rfl rfl)); (case c5 => decide); (case kB => exact locs rfl); (case c2 => exact rfl); (case c3 => exact rfl); (case c4 => exact rfl); k_whole); intro g9 L9 h9 kp9 F9 N9 B9 X9 T9; (((try dsimp only); (try k_fold)))))))
  rename IntTab _ _ _ _ _ => hT
  rename Kp _ _ => kp
  have hT9 := TabAt.keep hT kp
  clear hT
  (repeat' (first | ((k_unfold; (try dsimp only))) | ((((with_reducible show wpAny _ _ (call (Value.ref 110) _ _) _ _ _); (k_dflt (refine' Pure.use (get_ok _ _ _ (by assumption) _) ?k1 ?k2 ?k3 ?k4 ?k5 ?kK ?kp ?kd ?ku ?_; (case k1 => k_asm); (case k2 => k_asm); (case k3 => k_asm); (case k4 => k_asm); (case k5 => k_asm); (case kK => first | exact rfl | assumption); (case kp => first | trivial | assumption | exact TabAt.keep (by assumption) (Fr.keep (by assumption))); (case kd => ktr_room); (case ku => ktr_units))); ((intro t8 h8 tk8 F8 N8; (((try dsimp only); (try k_fold)))))))) | ((fail_if_success (with_reducible show wpAny _ _ (exec (Stmt.While _ _ _ _) _) _ _ _)); (((fail_if_success (with_reducible show wpAny _ _ (pyIter _) _ _ _)); (fail_if_success (with_reducible show wpAny _ _ (exec (Stmt.For _ _ _ _ _) _) _ _ _)); (fail_if_success (with_reducible show wpAny _ _ (eval (Expr.ListComp _ _ _ _) _) _ _ _)); (fail_if_success (with_reducible show wpAny _ _ (exec (Stmt.Assign _ (Expr.ListComp _ _ _ _) _) _) _ _ _)); walk1; (try dsimp only)))) | dsimp only))
  rename Fr _ _ _ _ => F0
  refine For_invVF F0 rfl rfl ?_
  (repeat' (first | ((k_unfold; (try dsimp only))) | ((((with_reducible show wpAny _ _ (call (Value.ref 110) _ _) _ _ _); (k_dflt (refine' Pure.use (get_ok _ _ _ (by assumption) _) ?k1 ?k2 ?k3 ?k4 ?k5 ?kK ?kp ?kd ?ku ?_; (case k1 => k_asm); (case k2 => k_asm); (case k3 => k_asm); (case k4 => k_asm); (case k5 => k_asm); (case kK => first | exact rfl | assumption); (case kp => first | trivial | assumption | exact TabAt.keep (by assumption) (Fr.keep (by assumption))); (case kd => ktr_room); (case ku => ktr_units))); ((intro t8 h8 tk8 F8 N8; (((try dsimp only); (try k_fold)))))))) | ((fail_if_success (with_reducible show wpAny _ _ (exec (Stmt.While _ _ _ _) _) _ _ _)); (((fail_if_success (with_reducible show wpAny _ _ (pyIter _) _ _ _)); (fail_if_success (with_reducible show wpAny _ _ (exec (Stmt.For _ _ _ _ _) _) _ _ _)); (fail_if_success (with_reducible show wpAny _ _ (eval (Expr.ListComp _ _ _ _) _) _ _ _)); (fail_if_success (with_reducible show wpAny _ _ (exec (Stmt.Assign _ (Expr.ListComp _ _ _ _) _) _) _ _ _)); walk1; (try dsimp only)))) | dsimp only))
  rename News _ _ _ _ => N0
  refine mbytes (σ := (Int × Tok)) (ks := fs.map fun f => (sg f : Int)) (fun c => []) (fun c => [(Str.ofString "register", .int c.1 c.2)]) ["turn", "moved"] (fun pre c => c.1 = (runF (fs.take pre.length) : Nat)) (0, _) ?hb rfl rfl F0 N0 (by kst_all) ?hp ?_ ?_
  case hb => exact bi_sg fs
  case hp => rfl
  · clear F0 N0
    rintro ⟨reg, t1⟩ pre post n tn u h tk own hks hlt hn0 hn1 hoff hI F1 N1
    simp only [kstB, List.cons_append, List.nil_append, List.map_cons, List.map_nil] at hI F1 N1 hoff ⊢
    obtain ⟨f, hfm, hnf, hfs2⟩ := split_fig hks
    have hf := hfs f hfm
    subst hnf
    obtain ⟨r0, hr0⟩ : ∃ r0 : Nat, runF (fs.take pre.length) = r0 := ⟨_, rfl⟩
    have hr1 : r0 < 4096 := hr0 ▸ run_lt _ 0 (by decide)
    rw [hr0] at hI
    subst hI
    refine wpAny_q fun QA hQA => ?_
    (repeat' (first | ((k_unfold; (try dsimp only))) | ((((with_reducible show wpAny _ _ (call (Value.ref 110) _ _) _ _ _); (k_dflt (refine' Pure.use (get_ok _ _ _ (by assumption) _) ?k1 ?k2 ?k3 ?k4 ?k5 ?kK ?kp ?kd ?ku ?_; (case k1 => k_asm); (case k2 => k_asm); (case k3 => k_asm); (case k4 => k_asm); (case k5 => k_asm); (case kK => first | exact rfl | assumption); (case kp => first | trivial | assumption | exact TabAt.keep (by assumption) (Fr.keep (by assumption))); (case kd => ktr_room); (case ku => ktr_units))); ((intro t8 h8 tk8 F8 N8; (((try dsimp only); (try k_fold)))))))) | ((fail_if_success (with_reducible show wpAny _ _ (exec (Stmt.While _ _ _ _) _) _ _ _)); (((fail_if_success (with_reducible show wpAny _ _ (pyIter _) _ _ _)); (fail_if_success (with_reducible show wpAny _ _ (exec (Stmt.For _ _ _ _ _) _) _ _ _)); (fail_if_success (with_reducible show wpAny _ _ (eval (Expr.ListComp _ _ _ _) _) _ _ _)); (fail_if_success (with_reducible show wpAny _ _ (exec (Stmt.Assign _ (Expr.ListComp _ _ _ _) _) _) _ _ _)); walk1; (try dsimp only)))) | dsimp only))
    rename Fr _ _ _ _ => F0
    refine For_invVF F0 rfl rfl ?_
    (repeat' (first | ((k_unfold; (try dsimp only))) | ((((with_reducible show wpAny _ _ (call (Value.ref 110) _ _) _ _ _); (k_dflt (refine' Pure.use (get_ok _ _ _ (by assumption) _) ?k1 ?k2 ?k3 ?k4 ?k5 ?kK ?kp ?kd ?ku ?_; (case k1 => k_asm); (case k2 => k_asm); (case k3 => k_asm); (case k4 => k_asm); (case k5 => k_asm); (case kK => first | exact rfl | assumption); (case kp => first | trivial | assumption | exact TabAt.keep (by assumption) (Fr.keep (by assumption))); (case kd => ktr_room); (case ku => ktr_units))); ((intro t8 h8 tk8 F8 N8; (((try dsimp only); (try k_fold)))))))) | ((fail_if_success (with_reducible show wpAny _ _ (exec (Stmt.While _ _ _ _) _) _ _ _)); (((fail_if_success (with_reducible show wpAny _ _ (pyIter _) _ _ _)); (fail_if_success (with_reducible show wpAny _ _ (exec (Stmt.For _ _ _ _ _) _) _ _ _)); (fail_if_success (with_reducible show wpAny _ _ (eval (Expr.ListComp _ _ _ _) _) _ _ _)); (fail_if_success (with_reducible show wpAny _ _ (exec (Stmt.Assign _ (Expr.ListComp _ _ _ _) _) _) _ _ _)); walk1; (try dsimp only)))) | dsimp only))
    rename Fr _ _ _ _ => F0
    rename News _ _ _ _ => N0
    refine mrange (σ := Int × Tok) (n := 6) (fun _ => own) (fun c => [(Str.ofString "register", .int c.1 c.2)]) ["moved"] (fun q c => c.1 = (it q.length (r0 ^^^ (f * 64)) : Nat)) (_, _) rfl (by assumption) (by decide) (by rfl) F0 N0 (by kst_all) ?hp ?_ ?_
    case hp => exact run_head r0 f
    · clear F0 N0
      rintro ⟨reg, t2⟩ pr k tk1 u1 h1 tk2 own1 hk1 hlt1 hoff1 hI1 F2 N2
      simp only [kstB] at hI1 F2 N2 ⊢
      subst hI1
      have hqb := it_lt pr.length _ (show r0 ^^^ (f * 64) < 4096 from Nat.xor_lt_two_pow (n := 12) hr1 (by omega))
      generalize hq : it pr.length (r0 ^^^ (f * 64)) = q at *
      refine wpAny_q fun QB hQB => ?_
      (repeat' (first | ((k_unfold; (try dsimp only))) | ((((with_reducible show wpAny _ _ (call (Value.ref 110) _ _) _ _ _); (k_dflt (refine' Pure.use (get_ok _ _ _ (by assumption) _) ?k1 ?k2 ?k3 ?k4 ?k5 ?kK ?kp ?kd ?ku ?_; (case k1 => k_asm); (case k2 => k_asm); (case k3 => k_asm); (case k4 => k_asm); (case k5 => k_asm); (case kK => first | exact rfl | assumption); (case kp => first | trivial | assumption | exact TabAt.keep (by assumption) (Fr.keep (by assumption))); (case kd => ktr_room); (case ku => ktr_units))); ((intro t8 h8 tk8 F8 N8; (((try dsimp only); (try k_fold)))))))) | ((fail_if_success (with_reducible show wpAny _ _ (exec (Stmt.While _ _ _ _) _) _ _ _)); (((fail_if_success (with_reducible show wpAny _ _ (pyIter _) _ _ _)); (fail_if_success (with_reducible show wpAny _ _ (exec (Stmt.For _ _ _ _ _) _) _ _ _)); (fail_if_success (with_reducible show wpAny _ _ (eval (Expr.ListComp _ _ _ _) _) _ _ _)); (fail_if_success (with_reducible show wpAny _ _ (exec (Stmt.Assign _ (Expr.ListComp _ _ _ _) _) _) _ _ _)); walk1; (try dsimp only)))) | dsimp only))
      · rename Fr _ _ _ _ => F3
        rename News _ _ _ _ => N3
        refine hQB _ _ ?_
        exact tpost_end (_, _) F3 N3 (fun p hp => List.mem_append.mpr (.inl hp)) (fun p hp => List.mem_append.mpr (.inr hp)) rfl (by kst_all) (by kst_same) (by rw [List.length_append]; show _ = ((stp (it pr.length (r0 ^^^ (f * 64))) : Nat) : Int); rw [hq]; exact run_turn1 (by assumption))
      · rename Fr _ _ _ _ => F3
        rename News _ _ _ _ => N3
        refine hQB _ _ ?_
        exact tpost_end (_, _) F3 N3 (fun p hp => List.mem_append.mpr (.inl hp)) (fun p hp => List.mem_append.mpr (.inr hp)) rfl (by kst_all) (by kst_same) (by rw [List.length_append]; show _ = ((stp (it pr.length (r0 ^^^ (f * 64))) : Nat) : Int); rw [hq]; exact run_turn0 (by assumption))
    · rintro ⟨reg, t2⟩ u1 h1 tk2 hI1 F2 N2
      simp only [kstB] at hI1 F2 N2 ⊢
      (repeat' (first | ((k_unfold; (try dsimp only))) | ((((with_reducible show wpAny _ _ (call (Value.ref 110) _ _) _ _ _); (k_dflt (refine' Pure.use (get_ok _ _ _ (by assumption) _) ?k1 ?k2 ?k3 ?k4 ?k5 ?kK ?kp ?kd ?ku ?_; (case k1 => k_asm); (case k2 => k_asm); (case k3 => k_asm); (case k4 => k_asm); (case k5 => k_asm); (case kK => first | exact rfl | assumption); (case kp => first | trivial | assumption | exact TabAt.keep (by assumption) (Fr.keep (by assumption))); (case kd => ktr_room); (case ku => ktr_units))); ((intro t8 h8 tk8 F8 N8; (((try dsimp only); (try k_fold)))))))) | ((fail_if_success (with_reducible show wpAny _ _ (exec (Stmt.While _ _ _ _) _) _ _ _)); (((fail_if_success (with_reducible show wpAny _ _ (pyIter _) _ _ _)); (fail_if_success (with_reducible show wpAny _ _ (exec (Stmt.For _ _ _ _ _) _) _ _ _)); (fail_if_success (with_reducible show wpAny _ _ (eval (Expr.ListComp _ _ _ _) _) _ _ _)); (fail_if_success (with_reducible show wpAny _ _ (exec (Stmt.Assign _ (Expr.ListComp _ _ _ _) _) _) _ _ _)); walk1; (try dsimp only)))) | dsimp only))
      rename Fr _ _ _ _ => F3
      rename News _ _ _ _ => N3
      refine hQA _ _ ?_
      exact tpost_end (_, _) F3 N3 (fun p hp => nomatch hp) (fun p hp => hp) rfl (by kst_all) (by kst_same) (by dsimp only; rw [hI1, hfs2]; unfold runF at hr0 ⊢; rw [List.foldl_append, hr0]; rfl)
  · clear F0 N0
    rintro ⟨reg, t1⟩ u h tk hI F1 N1
    simp only [kstB, List.length_map, List.take_length] at hI F1 N1 ⊢
    subst hI
    (repeat' (first | ((k_unfold; (try dsimp only))) | ((((with_reducible show wpAny _ _ (call (Value.ref 110) _ _) _ _ _); (k_dflt (refine' Pure.use (get_ok _ _ _ (by assumption) _) ?k1 ?k2 ?k3 ?k4 ?k5 ?kK ?kp ?kd ?ku ?_; (case k1 => k_asm); (case k2 => k_asm); (case k3 => k_asm); (case k4 => k_asm); (case k5 => k_asm); (case kK => first | exact rfl | assumption); (case kp => first | trivial | assumption | exact TabAt.keep (by assumption) (Fr.keep (by assumption))); (case kd => ktr_room); (case ku => ktr_units))); ((intro t8 h8 tk8 F8 N8; (((try dsimp only); (try k_fold)))))))) | ((fail_if_success (with_reducible show wpAny _ _ (exec (Stmt.While _ _ _ _) _) _ _ _)); (((fail_if_success (with_reducible show wpAny _ _ (pyIter _) _ _ _)); (fail_if_success (with_reducible show wpAny _ _ (exec (Stmt.For _ _ _ _ _) _) _ _ _)); (fail_if_success (with_reducible show wpAny _ _ (eval (Expr.ListComp _ _ _ _) _) _ _ _)); (fail_if_success (with_reducible show wpAny _ _ (exec (Stmt.Assign _ (Expr.ListComp _ _ _ _) _) _) _ _ _)); walk1; (try dsimp only)))) | dsimp only))
    rename ∀ (t : Tok) (h' : Heap) (tk' : Nat), Kp _ _ → _ => hr9
    rename Fr _ _ _ _ => F3
    exact end_int' hr9 kp F3 rfl rfl
noncomputable def ones (R : Nat) : Nat := ((List.range 36).filter fun k => R / 2 ^ k % 2 == 1).length
noncomputable def tstO (row : Int) (v : Value) : Bool := match v with | .int k _ => decide ((row.fdiv (2 ^ k.toNat)).fmod 2 = 1) | _ => false
noncomputable def AsIs (v y : Value) : Prop := y = v
theorem as_is {vs ys : List Value} (h : Paired AsIs vs ys) : ys = vs := by
  induction h with
  | nil => rfl
  | cons h _ ih => rw [ih, show _ = _ from h]
theorem ones_vs (R : Nat) : ∀ (n : Nat) (vs : List Value), vs.length = n → (∀ (j : Nat) v, vs[j]? = some v → ∃ t, v = Value.int (j : Nat) t) → (vs.filter (tstO R)).length = ((List.range n).filter fun k => R / 2 ^ k % 2 == 1).length
  | 0, vs, h, _ => by rw [List.length_eq_zero_iff.mp h]; rfl
  | n + 1, vs, h, hP => by
    obtain ⟨ws, v, rfl⟩ : ∃ ws v, vs = ws ++ [v] := ⟨vs.dropLast, vs.getLast (by intro e; rw [e] at h; cases h), (List.dropLast_concat_getLast _).symm⟩
    have hw : ws.length = n := by simpa using h
    obtain ⟨t, rfl⟩ := hP n v (by rw [← hw]; simp)
    have ih := ones_vs R n ws hw fun j v hv => hP j v (by rw [List.getElem?_append_left (List.getElem?_eq_some_iff.mp hv).1]; exact hv)
    rw [List.filter_append, List.length_append, ih, List.range_succ, List.filter_append, List.length_append]
    have e : tstO R (Value.int (n : Nat) t) = (R / 2 ^ n % 2 == 1) := by
      show decide (((R : Int).fdiv (2 ^ n)).fmod 2 = 1) = _
      have e3 : ((R : Int).fdiv (2 ^ n)).fmod 2 = ((R / 2 ^ n % 2 : Nat) : Int) := by
        have e2 : ((2 : Int) ^ n) = ((2 ^ n : Nat) : Int) := by simp
        rw [e2]; exact fdm R (2 ^ n) 2
      rw [e3]
      rcases Nat.mod_two_eq_zero_or_one (R / 2 ^ n) with p | p <;> rw [p] <;> rfl
    rw [List.filter_cons, List.filter_cons, e, List.filter_nil, List.filter_nil]
    cases (R / 2 ^ n % 2 == 1) <;> rfl
theorem odd_ok (w : World) (row : Int) (t : Tok) (h0 : 0 ≤ row) (h1 : row < 2 ^ 36) : Pure w 1 176 [.int row t] [] (fun _ => True) (fun t => .int (row * 2 + 1 - (ones row.toNat : Int) % 2) t) := by
  ((((w_top off; intro p loose mean mg mb dp un gd cn cs a ccd cl outer A₀ base h₀ L m s Q E B F X T hk hpre hdp hun hret; ((have hfill : (fun (_ : OpenLaw) (_ : Params → Frag) => True) PySem.Challenge.rw_om0013_01 KK := (by k_fill; trivial); clear hfill)))); ((refine wpAny_call ?_; k_dflt (refine' enter0C ?k1 ?k2 ?k3 ?k5 rfl rfl (by assumption) ?k6 ?k7 ?k8 ?k9 ?kB ?kD ?_ ?c2 ?c3 ?c4; (case k1 => k_asm); (case k2 => k_asm); (case k3 => k_asm); (case k5 => k_asm); (case k6 => k_is); (case k7 => k_is); (case k8 => ktr_room); (case k9 => (first | exact BindsTo.of_eq rfl | exact binds_K (by k_in) rfl (by k_is) rfl rfl rfl)); (case kB => exact rfl); (case kD => decide +kernel); (case c2 => exact rfl); (case c3 => exact rfl); (case c4 => exact rfl); k_whole); intro g9 L9 h9 tk9 cells9 kp9 F9 N9 Y9 B9 X9 T9; k_cells Y9; (((try dsimp only); (try k_fold)))))))
  (repeat' (first | ((k_unfold; (try dsimp only))) | ((fail_if_success (with_reducible show wpAny _ _ (exec (Stmt.While _ _ _ _) _) _ _ _)); (((fail_if_success (with_reducible show wpAny _ _ (pyIter _) _ _ _)); (fail_if_success (with_reducible show wpAny _ _ (exec (Stmt.For _ _ _ _ _) _) _ _ _)); (fail_if_success (with_reducible show wpAny _ _ (eval (Expr.ListComp _ _ _ _) _) _ _ _)); (fail_if_success (with_reducible show wpAny _ _ (exec (Stmt.Assign _ (Expr.ListComp _ _ _ _) _) _) _ _ _)); walk1; (try dsimp only)))) | dsimp only))
  refine comp_gen (tstO row) AsIs (by assumption) (by with_unfolding_all rfl) (by decide) (by rfl) (by decide) (by rfl) ?_
  (repeat' (first | ((k_unfold; (try dsimp only))) | ((fail_if_success (with_reducible show wpAny _ _ (exec (Stmt.While _ _ _ _) _) _ _ _)); (((fail_if_success (with_reducible show wpAny _ _ (pyIter _) _ _ _)); (fail_if_success (with_reducible show wpAny _ _ (exec (Stmt.For _ _ _ _ _) _) _ _ _)); (fail_if_success (with_reducible show wpAny _ _ (eval (Expr.ListComp _ _ _ _) _) _ _ _)); (fail_if_success (with_reducible show wpAny _ _ (exec (Stmt.Assign _ (Expr.ListComp _ _ _ _) _) _) _ _ _)); walk1; (try dsimp only)))) | dsimp only))
  refine ⟨36, _, _, Src.range rfl (by assumption) (by decide) (by decide), by assumption, by assumption, Nat.le_of_ble_eq_true rfl, ?_, ?_, ?_⟩
  · rintro C oC m₂ i v s₃ E' ⟨hi, tt, rfl⟩ ⟨c1, c2, c3, c4⟩
    rw [Int.zero_add, Int.mul_one] at c2
    rw [Int.zero_add, Int.mul_one]
    obtain ⟨k, hk⟩ : ∃ k : Int, (i : Int) = k := ⟨_, rfl⟩
    have hk0 : 0 ≤ k := by omega
    have hk1 : k ≤ 35 := by omega
    rw [hk] at c2 ⊢
    (repeat' (first | ((k_unfold; (try dsimp only))) | ((fail_if_success (with_reducible show wpAny _ _ (exec (Stmt.While _ _ _ _) _) _ _ _)); (((fail_if_success (with_reducible show wpAny _ _ (pyIter _) _ _ _)); (fail_if_success (with_reducible show wpAny _ _ (exec (Stmt.For _ _ _ _ _) _) _ _ _)); (fail_if_success (with_reducible show wpAny _ _ (eval (Expr.ListComp _ _ _ _) _) _ _ _)); (fail_if_success (with_reducible show wpAny _ _ (exec (Stmt.Assign _ (Expr.ListComp _ _ _ _) _) _) _ _ _)); walk1; (try dsimp only)))) | dsimp only))
    exact ⟨rfl, _, _, rfl, fun _ _ e => e⟩
  · rintro C oC m₂ i v s₃ E' ⟨hi, tt, rfl⟩ - ⟨c1, c2, c3, c4⟩
    (repeat' (first | ((k_unfold; (try dsimp only))) | ((fail_if_success (with_reducible show wpAny _ _ (exec (Stmt.While _ _ _ _) _) _ _ _)); (((fail_if_success (with_reducible show wpAny _ _ (pyIter _) _ _ _)); (fail_if_success (with_reducible show wpAny _ _ (exec (Stmt.For _ _ _ _ _) _) _ _ _)); (fail_if_success (with_reducible show wpAny _ _ (eval (Expr.ListComp _ _ _ _) _) _ _ _)); (fail_if_success (with_reducible show wpAny _ _ (exec (Stmt.Assign _ (Expr.ListComp _ _ _ _) _) _) _ _ _)); walk1; (try dsimp only)))) | dsimp only))
    exact ⟨rfl, _, _, rfl, fun _ _ e => e⟩
  · intro D h' tk k ys vs hlen hP hF F2 N2 hD
    obtain ⟨R, rfl⟩ := Int.eq_ofNat_of_zero_le h0
    have e := ones_vs R 36 vs hlen fun j v hv => by
      obtain ⟨_, t, e⟩ := hP j v hv
      exact ⟨t, by rw [e, Int.zero_add, Int.mul_one]⟩
    rw [← as_is hF] at e
    have hyl : ys.length ≤ 36 := by
      rw [as_is hF]; exact Nat.le_trans (List.length_filter_le _ _) (Nat.le_of_eq hlen)
    clear hF hP hlen vs
    (repeat' (first | ((k_unfold; (try dsimp only))) | ((fail_if_success (with_reducible show wpAny _ _ (exec (Stmt.While _ _ _ _) _) _ _ _)); (((fail_if_success (with_reducible show wpAny _ _ (pyIter _) _ _ _)); (fail_if_success (with_reducible show wpAny _ _ (exec (Stmt.For _ _ _ _ _) _) _ _ _)); (fail_if_success (with_reducible show wpAny _ _ (eval (Expr.ListComp _ _ _ _) _) _ _ _)); (fail_if_success (with_reducible show wpAny _ _ (exec (Stmt.Assign _ (Expr.ListComp _ _ _ _) _) _) _ _ _)); walk1; (try dsimp only)))) | dsimp only))
    refine KM.len_K N2 (.head _) (n := ys.length) (by simp) (by omega) ?_
    (repeat' (first | ((k_unfold; (try dsimp only))) | ((fail_if_success (with_reducible show wpAny _ _ (exec (Stmt.While _ _ _ _) _) _ _ _)); (((fail_if_success (with_reducible show wpAny _ _ (pyIter _) _ _ _)); (fail_if_success (with_reducible show wpAny _ _ (exec (Stmt.For _ _ _ _ _) _) _ _ _)); (fail_if_success (with_reducible show wpAny _ _ (eval (Expr.ListComp _ _ _ _) _) _ _ _)); (fail_if_success (with_reducible show wpAny _ _ (exec (Stmt.Assign _ (Expr.ListComp _ _ _ _) _) _) _ _ _)); walk1; (try dsimp only)))) | dsimp only))
    rename ∀ (t : Tok) (h' : Heap) (tk' : Nat), Kp _ _ → _ => hr9
    rename Fr _ _ _ _ => F3
    refine end_int' hr9 (by assumption) F3 rfl ?_
    rw [e, Int.fmod_eq_emod_of_nonneg _ (by decide)]; rfl
noncomputable def seg1 (x : Str) (row a b : Int) (s : String) : Str := x ++ Txt.item (Str.ofString "-r") (((row.fdiv a).fmod 8).fdiv 4) ++ Txt.item (Str.ofString "-w") ((((row.fdiv a).fmod 8).fdiv 2).fmod 2) ++ Txt.item (Str.ofString s) (((row.fdiv a).fmod 8).fmod 2 + 2 * (row.fdiv b).fmod 2)
noncomputable def lisF (row : Int) : Nat → Str
  | 0 => Str.ofString "?"
  | 1 => seg1 (Str.ofString "?") row 64 2048 "-xSs"
  | 2 => seg1 (seg1 (Str.ofString "?") row 64 2048 "-xSs") row 8 1024 "-xSs"
  | _ => seg1 (seg1 (seg1 (Str.ofString "?") row 64 2048 "-xSs") row 8 1024 "-xSs") row 1 512 "-xTt"
theorem digs (row a b : Int) : ∃ dg lv : Int, (row.fdiv a).fmod 8 = dg ∧ ((row.fdiv a).fmod 8).fmod 2 + 2 * (row.fdiv b).fmod 2 = lv ∧ 0 ≤ dg ∧ dg < 8 ∧ 0 ≤ lv ∧ lv < 4 := by
  have h1 := Int.fmod_nonneg_of_pos (row.fdiv a) (b := 8) (by decide)
  have h2 := Int.fmod_lt_of_pos (row.fdiv a) (b := 8) (by decide)
  have h3 := Int.fmod_nonneg_of_pos ((row.fdiv a).fmod 8) (b := 2) (by decide)
  have h4 := Int.fmod_lt_of_pos ((row.fdiv a).fmod 8) (b := 2) (by decide)
  have h5 := Int.fmod_nonneg_of_pos (row.fdiv b) (b := 2) (by decide)
  have h6 := Int.fmod_lt_of_pos (row.fdiv b) (b := 2) (by decide)
  exact ⟨_, _, rfl, rfl, h1, h2, by omega, by omega⟩
section
local macro_rules | `(tactic| k_gentoks) => `(tactic| ((first | (with_reducible show wpAny _ _ _ _ _ (Shared.mk _ _ _ (_ + 1 + 1) _)) | (with_reducible show wpAny _ _ _ _ _ (Shared.mk _ _ _ (Shared.toks _ + 1) _)) | (with_reducible show wpAny _ _ _ _ _ (Shared.mk _ _ _ (Shared.toks (Shared.mk _ _ _ _ _)) _))); with_reducible refine toks_gen ?_; intro tk))
theorem listing_ok (w : World) (row : Int) (t : Tok) (h0 : 0 ≤ row) (h1 : row < 4096) : Pure w 1 147 [.int row t] [] (fun _ => True) (fun t => .str (lisF row 3) t) := by
  ((((w_top off; intro p loose mean mg mb dp un gd cn cs a ccd cl outer A₀ base h₀ L m s Q E B F X T hk hpre hdp hun hret; ((have hfill : (fun (_ : OpenLaw) (_ : Params → Frag) => True) PySem.Challenge.rw_om0013_01 KK := (by k_fill; trivial); clear hfill)))); ((refine wpAny_call ?_; k_dflt (refine' enter0 ?k1 ?k2 ?k3 ?k5 rfl rfl (by assumption) ?k6 ?k7 ?k8 ?k9 ?kB ?_ ?c2 ?c3 ?c4 ?c5; (case k1 => k_asm); (case k2 => k_asm); (case k3 => k_asm); (case k5 => k_asm); (case k6 => k_is); (case k7 => k_is); (case k8 => ktr_room); (case k9 => (first | exact BindsTo.of_eq rfl | exact binds_K (by k_in) rfl (by k_is) rfl rfl rfl)); (case c5 => decide); (case kB => exact locs rfl); (case c2 => exact rfl); (case c3 => exact rfl); (case c4 => exact rfl); k_whole); intro g9 L9 h9 kp9 F9 N9 B9 X9 T9; (((try dsimp only); (try k_fold)))))))
  (repeat' (first | ((k_unfold; (try dsimp only))) | ((fail_if_success (with_reducible show wpAny _ _ (exec (Stmt.While _ _ _ _) _) _ _ _)); (((fail_if_success (with_reducible show wpAny _ _ (pyIter _) _ _ _)); (fail_if_success (with_reducible show wpAny _ _ (exec (Stmt.For _ _ _ _ _) _) _ _ _)); (fail_if_success (with_reducible show wpAny _ _ (eval (Expr.ListComp _ _ _ _) _) _ _ _)); (fail_if_success (with_reducible show wpAny _ _ (exec (Stmt.Assign _ (Expr.ListComp _ _ _ _) _) _) _ _ _)); walk1; (try dsimp only)))) | dsimp only))
  rename Fr _ _ _ _ => F0
  refine For_invVF F0 rfl rfl ?_
  (repeat' (first | ((k_unfold; (try dsimp only))) | ((fail_if_success (with_reducible show wpAny _ _ (exec (Stmt.While _ _ _ _) _) _ _ _)); (((fail_if_success (with_reducible show wpAny _ _ (pyIter _) _ _ _)); (fail_if_success (with_reducible show wpAny _ _ (exec (Stmt.For _ _ _ _ _) _) _ _ _)); (fail_if_success (with_reducible show wpAny _ _ (eval (Expr.ListComp _ _ _ _) _) _ _ _)); (fail_if_success (with_reducible show wpAny _ _ (exec (Stmt.Assign _ (Expr.ListComp _ _ _ _) _) _) _ _ _)); walk1; (try dsimp only)))) | dsimp only))
  rename Fr _ _ _ _ => F0
  rename News _ _ _ _ => N0
  refine mrange (σ := Str × Tok) (n := 3) (fun _ => []) (fun c => [(Str.ofString "listing", .str c.1 c.2)]) ["digit", "last"] (fun q c => c.1 = lisF row q.length ∧ c.1.length = 1 + 3 * q.length) (_, _) rfl (by assumption) (by decide) (by rfl) F0 N0 (by kst_all) ?hp ?_ ?_
  case hp => exact ⟨rfl, rfl⟩
  · clear F0 N0
    rintro ⟨x, t2⟩ pr k tk1 u1 h1 tk2 own1 hk1 hlt1 hoff1 ⟨hx, hI1⟩ F2 N2
    simp only [kstB, List.nil_append] at hx hI1 F2 N2 ⊢
    obtain ⟨n, hn⟩ : ∃ n, pr.length = n := ⟨_, rfl⟩
    rw [hn] at hx hI1 hk1 hlt1
    have hn2 : n = 0 ∨ n = 1 ∨ n = 2 := by omega
    rcases hn2 with rfl | rfl | rfl
    all_goals (
      subst hk1
      clear hlt1 hoff1
      first
        | (have hxl : x.length = 1 := hI1)
        | (have hxl : x.length = 4 := hI1)
        | (have hxl : x.length = 7 := hI1)
      clear hI1
      refine wpAny_q fun QB hQB => ?_
      (repeat' (first | ((k_unfold; (try dsimp only))) | ((fail_if_success (with_reducible show wpAny _ _ (exec (Stmt.Assign [Expr.Name (Str.ofString "listing") _] _ _) _) _ _ _)); (((fail_if_success (with_reducible show wpAny _ _ (pyIter _) _ _ _)); (fail_if_success (with_reducible show wpAny _ _ (exec (Stmt.For _ _ _ _ _) _) _ _ _)); (fail_if_success (with_reducible show wpAny _ _ (eval (Expr.ListComp _ _ _ _) _) _ _ _)); (fail_if_success (with_reducible show wpAny _ _ (exec (Stmt.Assign _ (Expr.ListComp _ _ _ _) _) _) _ _ _)); walk1; (try dsimp only)))) | dsimp only))
      rename Fr _ _ _ _ => F3
      first
        | (obtain ⟨dg, lv, hdg, hlv, hd0, hd1, hl0, hl1⟩ := digs row 64 2048; rw [hlv, hdg] at F3)
        | (obtain ⟨dg, lv, hdg, hlv, hd0, hd1, hl0, hl1⟩ := digs row 8 1024; rw [hlv, hdg] at F3)
        | (obtain ⟨dg, lv, hdg, hlv, hd0, hd1, hl0, hl1⟩ := digs row 1 512; rw [hlv, hdg] at F3)
      (repeat' (first | ((k_unfold; (try dsimp only))) | ((fail_if_success (with_reducible show wpAny _ _ (exec (Stmt.While _ _ _ _) _) _ _ _)); (((fail_if_success (with_reducible show wpAny _ _ (pyIter _) _ _ _)); (fail_if_success (with_reducible show wpAny _ _ (exec (Stmt.For _ _ _ _ _) _) _ _ _)); (fail_if_success (with_reducible show wpAny _ _ (eval (Expr.ListComp _ _ _ _) _) _ _ _)); (fail_if_success (with_reducible show wpAny _ _ (exec (Stmt.Assign _ (Expr.ListComp _ _ _ _) _) _) _ _ _)); walk1; (try dsimp only)))) | dsimp only))
      rename Fr _ _ _ _ => F3
      rename News _ _ _ _ => N3
      refine hQB _ _ ?_
      refine tpost_end (_, _) F3 N3 (fun p hp => nomatch hp) (fun p hp => .tail _ (.tail _ (.tail _ hp))) rfl (by kst_all) (by kst_same) ⟨?_, ?_⟩
      · rw [List.length_append, List.length_cons, List.length_nil, hn, hx, ← hdg, ← hlv]; rfl
      · dsimp only
        rw [List.length_append, List.length_cons, List.length_nil, hn]
        omega)
  · clear F0 N0
    rintro ⟨x, t2⟩ u1 h1 tk2 ⟨hx, hI1⟩ F2 N2
    simp only [kstB] at hx hI1 F2 N2 ⊢
    (repeat' (first | ((k_unfold; (try dsimp only))) | ((fail_if_success (with_reducible show wpAny _ _ (exec (Stmt.While _ _ _ _) _) _ _ _)); (((fail_if_success (with_reducible show wpAny _ _ (pyIter _) _ _ _)); (fail_if_success (with_reducible show wpAny _ _ (exec (Stmt.For _ _ _ _ _) _) _ _ _)); (fail_if_success (with_reducible show wpAny _ _ (eval (Expr.ListComp _ _ _ _) _) _ _ _)); (fail_if_success (with_reducible show wpAny _ _ (exec (Stmt.Assign _ (Expr.ListComp _ _ _ _) _) _) _ _ _)); walk1; (try dsimp only)))) | dsimp only))
    rename ∀ (t : Tok) (h' : Heap) (tk' : Nat), Kp _ _ → _ => hr9
    rename Fr _ _ _ _ => F3
    exact end_str' hr9 (by assumption) F3 rfl hx
end
theorem written_ok (w : World) (row : Int) (t : Tok) (h0 : 0 ≤ row) (h1 : row < 2 ^ 48) : Pure w 6 197 [.int row t] [] (fun _ => True) (fun t => .bytes (BA (txtN row.toNat)) t) := by
  ((((w_top off; intro p loose mean mg mb dp un gd cn cs a ccd cl outer A₀ base h₀ L m s Q E B F X T hk hpre hdp hun hret; ((have hfill : (fun (_ : OpenLaw) (_ : Params → Frag) => True) PySem.Challenge.rw_om0013_01 KK := (by k_fill; trivial); clear hfill)))); ((refine wpAny_call ?_; k_dflt (refine' enter0 ?k1 ?k2 ?k3 ?k5 rfl rfl (by assumption) ?k6 ?k7 ?k8 ?k9 ?kB ?_ ?c2 ?c3 ?c4 ?c5; (case k1 => k_asm); (case k2 => k_asm); (case k3 => k_asm); (case k5 => k_asm); (case k6 => k_is); (case k7 => k_is); (case k8 => ktr_room); (case k9 => (first | exact BindsTo.of_eq rfl | exact binds_K (by k_in) rfl (by k_is) rfl rfl rfl)); (case c5 => decide); (case kB => exact locs rfl); (case c2 => exact rfl); (case c3 => exact rfl); (case c4 => exact rfl); k_whole); intro g9 L9 h9 kp9 F9 N9 B9 X9 T9; (((try dsimp only); (try k_fold)))))))
  (repeat' (first | ((k_unfold; (try dsimp only))) | ((first | ((with_reducible show wpAny _ _ (call (Value.ref 152) _ _) _ _ _); (k_dflt (refine' Pure.use (octets_ok _ _ _ (by omega) (by omega)) ?k1 ?k2 ?k3 ?k4 ?k5 ?kK ?kp ?kd ?ku ?_; (case k1 => k_asm); (case k2 => k_asm); (case k3 => k_asm); (case k4 => k_asm); (case k5 => k_asm); (case kK => first | exact rfl | assumption); (case kp => first | trivial | assumption | exact TabAt.keep (by assumption) (Fr.keep (by assumption))); (case kd => ktr_room); (case ku => ktr_units))); ((intro t8 h8 tk8 F8 N8; (((try dsimp only); (try k_fold)))))) | ((with_reducible show wpAny _ _ (call (Value.ref 157) _ _) _ _ _); (k_dflt (refine' Pure.use (text_ok _ _ _ (by omega) (by omega)) ?k1 ?k2 ?k3 ?k4 ?k5 ?kK ?kp ?kd ?ku ?_; (case k1 => k_asm); (case k2 => k_asm); (case k3 => k_asm); (case k4 => k_asm); (case k5 => k_asm); (case kK => first | exact rfl | assumption); (case kp => first | trivial | assumption | exact TabAt.keep (by assumption) (Fr.keep (by assumption))); (case kd => ktr_room); (case ku => ktr_units))); ((intro t8 h8 tk8 F8 N8; (((try dsimp only); (try k_fold)))))) | ((with_reducible show wpAny _ _ (call (Value.ref 140) _ _) _ _ _); (k_dflt (refine' Pure.use (b64_ok _ _ (by omega) _) ?k1 ?k2 ?k3 ?k4 ?k5 ?kK ?kp ?kd ?ku ?_; (case k1 => k_asm); (case k2 => k_asm); (case k3 => k_asm); (case k4 => k_asm); (case k5 => k_asm); (case kK => first | exact rfl | assumption); (case kp => first | trivial | assumption | exact TabAt.keep (by assumption) (Fr.keep (by assumption))); (case kd => ktr_room); (case ku => ktr_units))); ((intro t8 h8 tk8 F8 N8; (((try dsimp only); (try k_fold)))))))) | ((fail_if_success (with_reducible show wpAny _ _ (exec (Stmt.While _ _ _ _) _) _ _ _)); (((fail_if_success (with_reducible show wpAny _ _ (pyIter _) _ _ _)); (fail_if_success (with_reducible show wpAny _ _ (exec (Stmt.For _ _ _ _ _) _) _ _ _)); (fail_if_success (with_reducible show wpAny _ _ (eval (Expr.ListComp _ _ _ _) _) _ _ _)); (fail_if_success (with_reducible show wpAny _ _ (exec (Stmt.Assign _ (Expr.ListComp _ _ _ _) _) _) _ _ _)); walk1; (try dsimp only)))) | dsimp only))
  all_goals first
    | (exfalso; rename (_ != _) = true => hne; simp at hne; done)
    | (rename ∀ (t : Tok) (h' : Heap) (tk' : Nat), Kp _ _ → _ => hr9
       rename Fr _ _ _ _ => F3
       exact end_bytes' hr9 (by assumption) F3 rfl rfl)
/-- p at every number below n, as one check -/
noncomputable def allB (p : Nat → Bool) : Nat → Bool
  | 0 => true
  | n + 1 => p n && allB p n
theorem allB_at {p : Nat → Bool} : ∀ {n : Nat}, allB p n = true → ∀ k, k < n → p k = true
  | 0, _, _, h => absurd h (Nat.not_lt_zero _)
  | n + 1, e, k, h => by
    simp only [allB, Bool.and_eq_true] at e
    rcases Nat.lt_or_eq_of_le (Nat.le_of_lt_succ h) with h | rfl
    · exact allB_at e.2 k h
    · exact e.1
theorem S_alt (r : Nat) (h : r < 4096) : S r = (r * 2) ^^^ (6159 * (r / 2048)) := by
  unfold S
  split
  · rw [show r / 2048 = 1 from by omega]
  · rw [show r / 2048 = 0 from by omega]; simp
theorem S_lt (r : Nat) (h : r < 4096) : S r < 4096 := by
  have : allB (fun r => Nat.blt (S r) 4096) 4096 = true := by decide +kernel
  exact Nat.blt_eq.mp (allB_at this r h)
theorem stp_S (r : Nat) (h : r < 4096) : stp r = S r := by
  have : allB (fun r => Nat.beq (stp r) (S r)) 4096 = true := by decide +kernel
  exact Nat.eq_of_beq_eq_true (allB_at this r h)
theorem S_ker (r : Nat) (h : r < 4096) (e : S r = 0) : r = 0 := by
  have : allB (fun r => !(Nat.beq (S r) 0) || Nat.beq r 0) 4096 = true := by decide +kernel
  have h2 := allB_at this r h
  rw [e] at h2
  exact Nat.eq_of_beq_eq_true (by simpa using h2)
theorem xor_div (a b k : Nat) : (a ^^^ b) / 2 ^ k = (a / 2 ^ k) ^^^ (b / 2 ^ k) := by
  have := Nat.shiftRight_xor_distrib (a := a) (b := b) (i := k); simpa [Nat.shiftRight_eq_div_pow] using this
theorem xor_mul2 (a b : Nat) : (a ^^^ b) * 2 = (a * 2) ^^^ (b * 2) := by
  have := Nat.shiftLeft_xor_distrib (a := a) (b := b) (i := 1); simpa [Nat.shiftLeft_eq] using this
theorem xor_lt12 {a b : Nat} (ha : a < 4096) (hb : b < 4096) : a ^^^ b < 4096 := Nat.xor_lt_two_pow (n := 12) ha hb
theorem S_xor (a b : Nat) (ha : a < 4096) (hb : b < 4096) : S (a ^^^ b) = S a ^^^ S b := by
  rw [S_alt _ (xor_lt12 ha hb), S_alt _ ha, S_alt _ hb, xor_mul2]
  have e : (a ^^^ b) / 2048 = (a / 2048) ^^^ (b / 2048) := xor_div a b 11
  have h1 : a / 2048 = 0 ∨ a / 2048 = 1 := by omega
  have h2 : b / 2048 = 0 ∨ b / 2048 = 1 := by omega
  rw [e]
  rcases h1 with x | x <;> rcases h2 with y | y <;> rw [x, y]
  · simp
  · simp [Nat.xor_assoc]
  · simp only [Nat.xor_zero, Nat.mul_one, Nat.mul_zero]
    rw [Nat.xor_assoc, Nat.xor_assoc, Nat.xor_comm (b * 2)]
  · simp only [Nat.xor_self, Nat.mul_one, Nat.mul_zero, Nat.xor_zero]
    rw [Nat.xor_assoc, ← Nat.xor_assoc 6159, Nat.xor_comm 6159, Nat.xor_assoc, Nat.xor_self, Nat.xor_zero]
/-- the weights' sum in Horner's order -/
noncomputable def restB : Nat → Nat → Nat
  | 0, _ => 0
  | n + 1, R => (if R % 2 = 1 then 2063 else 0) ^^^ S (restB n (R / 2))
theorem restB_lt : ∀ n R, restB n R < 4096
  | 0, _ => by show 0 < 4096; decide
  | n + 1, R => xor_lt12 (by split <;> decide) (S_lt _ (restB_lt n _))
/-- bits laid with a weight that moves -/
noncomputable def lin : Nat → Nat → Nat → Nat
  | 0, _, _ => 0
  | n + 1, w, l => (if l % 2 = 1 then w else 0) ^^^ lin n (S w) (l / 2)
theorem restF_lin : ∀ n r w l, restF n r w l = r ^^^ lin n w l
  | 0, r, _, _ => by simp [restF, lin]
  | n + 1, r, w, l => by
    rw [restF, restF_lin n, lin, ← Nat.xor_assoc]
    split <;> simp
theorem lin_lt : ∀ n w l, w < 4096 → lin n w l < 4096
  | 0, _, _, _ => by simp [lin]
  | n + 1, w, l, h => xor_lt12 (by split; exact h; decide) (lin_lt n _ _ (S_lt w h))
theorem S_zero : S 0 = 0 := by decide
theorem lin_S : ∀ n w l, w < 4096 → lin n (S w) l = S (lin n w l)
  | 0, _, _, _ => by simp [lin, S_zero]
  | n + 1, w, l, h => by
    rw [lin, lin, lin_S n (S w) _ (S_lt w h), S_xor _ _ (by split; exact h; decide) (lin_lt n _ _ (S_lt w h))]
    congr 1
    split <;> simp [S_zero]
theorem lin_restB : ∀ n R, lin n 2063 R = restB n R
  | 0, _ => rfl
  | n + 1, R => by rw [lin, restB, lin_S n _ _ (by decide), lin_restB n]
theorem rest_is (R : Nat) : restF 48 0 2063 R = restB 48 R := by rw [restF_lin, Nat.zero_xor, lin_restB]
/-- S, k times -/
noncomputable def itS : Nat → Nat → Nat
  | 0, r => r
  | k + 1, r => S (itS k r)
theorem itS_lt : ∀ k r, r < 4096 → itS k r < 4096
  | 0, _, h => h
  | k + 1, r, h => S_lt _ (itS_lt k r h)
theorem itS_S : ∀ k r, itS k (S r) = S (itS k r)
  | 0, _ => rfl
  | k + 1, r => congrArg S (itS_S k r)
theorem itS_zero : ∀ k, itS k 0 = 0
  | 0 => rfl
  | k + 1 => by rw [itS, itS_zero k, S_zero]
theorem itS_xor : ∀ k a b, a < 4096 → b < 4096 → itS k (a ^^^ b) = itS k a ^^^ itS k b
  | 0, _, _, _, _ => rfl
  | k + 1, a, b, ha, hb => by rw [itS, itS, itS, itS_xor k a b ha hb, S_xor _ _ (itS_lt k a ha) (itS_lt k b hb)]
theorem itS_ker : ∀ k r, r < 4096 → itS k r = 0 → r = 0
  | 0, _, _, e => e
  | k + 1, r, h, e => itS_ker k r h (S_ker _ (itS_lt k r h) e)
theorem it_itS : ∀ k r, r < 4096 → it k r = itS k r
  | 0, _, _ => rfl
  | k + 1, r, h => by rw [it, itS, it_itS k r h, stp_S _ (itS_lt k r h)]
theorem restB_split : ∀ k n R, restB (k + n) R = restB k R ^^^ itS k (restB n (R / 2 ^ k))
  | 0, n, R => by simp [restB, itS]
  | k + 1, n, R => by
    rw [show k + 1 + n = (k + n) + 1 from by omega, restB, restB_split k n (R / 2), S_xor _ _ (restB_lt _ _) (itS_lt _ _ (restB_lt _ _)), ← Nat.xor_assoc, restB, itS, Nat.div_div_eq_div_mul, Nat.pow_succ, Nat.mul_comm (2 ^ k) 2]
theorem restB_zero : ∀ n, restB n 0 = 0
  | 0 => rfl
  | n + 1 => by rw [restB, Nat.zero_div, restB_zero n, S_zero]; rfl
theorem restB_low : ∀ k R, restB k R = restB k (R % 2 ^ k)
  | 0, _ => rfl
  | k + 1, R => by
    have h1 : R % 2 ^ (k + 1) % 2 = R % 2 := Nat.mod_mod_of_dvd _ ⟨2 ^ k, by rw [Nat.pow_succ, Nat.mul_comm]⟩
    have h2 : R % 2 ^ (k + 1) / 2 = R / 2 % 2 ^ k := by
      rw [Nat.pow_succ, Nat.mul_comm, Nat.mod_mul_right_div_self]
    rw [restB, restB, h1, h2, ← restB_low k]
theorem restB_xor : ∀ n a b, restB n (a ^^^ b) = restB n a ^^^ restB n b
  | 0, _, _ => by simp [restB]
  | n + 1, a, b => by
    have e : (a ^^^ b) / 2 = (a / 2) ^^^ (b / 2) := by have := xor_div a b 1; simpa using this
    have m1 : (a ^^^ b) % 2 = (a % 2) ^^^ (b % 2) := by have := Nat.xor_mod_two_pow (a := a) (b := b) (n := 1); simpa using this
    rw [restB, restB, restB, e, restB_xor n, S_xor _ _ (restB_lt _ _) (restB_lt _ _), m1]
    generalize S (restB n (a / 2)) = x
    generalize S (restB n (b / 2)) = y
    rcases Nat.mod_two_eq_zero_or_one a with p | p <;> rcases Nat.mod_two_eq_zero_or_one b with q | q <;> rw [p, q] <;> simp
    · rw [← Nat.xor_assoc, ← Nat.xor_assoc, Nat.xor_comm x]
    · rw [Nat.xor_assoc]
    · rw [Nat.xor_comm 2063 x, Nat.xor_assoc, ← Nat.xor_assoc 2063, Nat.xor_self, Nat.zero_xor]
theorem six (f : Nat) (h : f < 64) : itS 6 (f * 64) = restB 6 f := by
  have : allB (fun f => Nat.beq (itS 6 (f * 64)) (restB 6 f)) 64 = true := by decide +kernel
  exact Nat.eq_of_beq_eq_true (allB_at this f h)
theorem chunk_is (n q f : Nat) (h : f < 64) : chunk (restB n q) f = restB (6 + n) (q * 64 + f) := by
  have hf : f * 64 < 4096 := by omega
  unfold chunk
  rw [it_itS _ _ (xor_lt12 (restB_lt _ _) hf), itS_xor _ _ _ (restB_lt _ _) hf, six f h, restB_split 6 n]
  rw [show (q * 64 + f) / 2 ^ 6 = q from by omega, restB_low 6 (q * 64 + f), show (q * 64 + f) % 2 ^ 6 = f from by omega, Nat.xor_comm]
noncomputable def figN (R : Nat) : List Nat := [R / 4398046511104 % 64, R / 68719476736 % 64, R / 1073741824 % 64, R / 16777216 % 64, R / 262144 % 64, R / 4096 % 64, R / 64 % 64, R % 64]
theorem txt_fig (R : Nat) : txtN R = (figN R).map sg := rfl
theorem fig_lt (R : Nat) : ∀ f ∈ figN R, f < 64 := by
  unfold figN
  simp only [List.forall_mem_cons, List.not_mem_nil, false_implies, implies_true, and_true]
  exact ⟨Nat.mod_lt _ (by decide), Nat.mod_lt _ (by decide), Nat.mod_lt _ (by decide), Nat.mod_lt _ (by decide), Nat.mod_lt _ (by decide), Nat.mod_lt _ (by decide), Nat.mod_lt _ (by decide), Nat.mod_lt _ (by decide)⟩
theorem chunk_div (R n a b : Nat) (hb : b = a * 64) : chunk (restB n (R / b)) (R / a % 64) = restB (6 + n) (R / a) := by
  rw [chunk_is _ _ _ (Nat.mod_lt _ (by decide)), hb, ← Nat.div_div_eq_div_mul, Nat.mul_comm, Nat.div_add_mod]
theorem run_six (R : Nat) (h : R < 281474976710656) : runF ((figN R).take 6) = restB 36 (R / 4096) := by
  have h0 : (0 : Nat) = restB 0 (R / 281474976710656) := rfl
  unfold runF figN
  simp only [List.take, List.foldl_cons, List.foldl_nil]
  rw [h0, chunk_div R _ 4398046511104 _ rfl, chunk_div R _ 68719476736 _ rfl, chunk_div R _ 1073741824 _ rfl, chunk_div R _ 16777216 _ rfl, chunk_div R _ 262144 _ rfl, chunk_div R _ 4096 _ rfl]
theorem run_eight (R : Nat) (h : R < 281474976710656) : runF (figN R) = restB 48 R := by
  have h6 := run_six R h
  unfold runF figN at h6 ⊢
  simp only [List.take, List.foldl_cons, List.foldl_nil] at h6 ⊢
  have e := chunk_div R 42 1 64 rfl
  rw [Nat.div_one] at e
  rw [h6, chunk_div R _ 64 _ rfl, e]
theorem restB_ext (k n R : Nat) (h : R < 2 ^ k) : restB (k + n) R = restB k R := by
  rw [restB_split, Nat.div_eq_of_lt h, restB_zero, itS_zero, Nat.xor_zero]
theorem two_xor {k x : Nat} (h : x < 2 ^ k) : 2 ^ k + x = 2 ^ k ^^^ x := by
  have h1 := add_xor_and (2 ^ k) x
  have h2 : 2 ^ k &&& x = 0 := by
    rw [Nat.and_comm, and_bit, Nat.div_eq_of_lt h]; rfl
  rw [h2] at h1; omega
theorem twelve12 : ∀ k, k ≤ 12 → ∀ s, s < 2 ^ k → itS 12 s = restB 12 s
  | 0, _, s, h => by
    have : s = 0 := by simpa using h
    subst this; rw [itS_zero, restB_zero]
  | k + 1, hk, s, h => by
    by_cases hs : s < 2 ^ k
    · exact twelve12 k (by omega) s hs
    · have hp : 2 ^ (k + 1) = 2 ^ k + 2 ^ k := by rw [Nat.pow_succ]; omega
      obtain ⟨x, hx⟩ : ∃ x, s = 2 ^ k + x := ⟨s - 2 ^ k, by omega⟩
      have hxk : x < 2 ^ k := by omega
      have hk12 : 2 ^ k < 4096 := Nat.lt_of_lt_of_le (Nat.pow_lt_pow_right (by decide) (by omega : k < 12)) (Nat.le_refl (2 ^ 12))
      rw [hx, two_xor hxk, itS_xor _ _ _ hk12 (by omega), restB_xor, twelve12 k (by omega) x hxk]
      have : allB (fun k => Nat.beq (itS 12 (2 ^ k)) (restB 12 (2 ^ k))) 12 = true := by decide +kernel
      rw [Nat.eq_of_beq_eq_true (allB_at this k (by omega))]
theorem twelve (s : Nat) (h : s < 4096) : itS 12 s = restB 12 s := twelve12 12 (Nat.le_refl _) s h
theorem sealed_zero (m : Nat) : restB 48 (m * 4096 + restB 36 m) = 0 := by
  have hs := restB_lt 36 m
  rw [show 48 = 12 + 36 from rfl, restB_split 12 36, restB_low 12]
  rw [show (m * 4096 + restB 36 m) % 2 ^ 12 = restB 36 m from by omega, show (m * 4096 + restB 36 m) / 2 ^ 12 = m from by omega, twelve _ hs, Nat.xor_self]
theorem stretch_ne (p s : Nat) (h0 : 0 < p) (h1 : p < 4096) (hs : s ≤ 36) : restB 48 (p * 2 ^ s) ≠ 0 := by
  intro e
  rw [show 48 = s + (48 - s) from by omega, restB_split, restB_low s, Nat.mul_mod_left, restB_zero, Nat.zero_xor, Nat.mul_div_cancel _ (Nat.two_pow_pos s), show 48 - s = 12 + (36 - s) from by omega, restB_ext 12 (36 - s) p h1, ← twelve p h1] at e
  have := itS_ker _ _ h1 (itS_ker _ _ (itS_lt _ _ h1) e)
  omega
theorem pow_rest (i : Nat) (h : i < 48) : restB 48 (2 ^ i) = itS i 2063 := by
  have : allB (fun i => Nat.beq (restB 48 (2 ^ i)) (itS i 2063)) 48 = true := by decide +kernel
  exact Nat.eq_of_beq_eq_true (allB_at this i h)
theorem itS_add : ∀ a b r, itS (a + b) r = itS a (itS b r)
  | 0, b, r => by rw [Nat.zero_add]; rfl
  | a + 1, b, r => by rw [show a + 1 + b = (a + b) + 1 from by omega]; show S (itS (a + b) r) = S (itS a (itS b r)); rw [itS_add a b r]
theorem two_lt (i j : Nat) (hj : j < 48) (h : i < j) : restB 48 (2 ^ j + 2 ^ i) ≠ 0 := by
  intro e
  rw [two_xor (Nat.pow_lt_pow_right (by decide) h), restB_xor, pow_rest j hj, pow_rest i (by omega)] at e
  obtain ⟨d, rfl⟩ : ∃ d, j = i + (d + 1) := ⟨j - i - 1, by omega⟩
  rw [itS_add, ← itS_xor _ _ _ (itS_lt _ _ (by decide)) (by decide)] at e
  have h0 := itS_ker _ _ (xor_lt12 (itS_lt _ _ (by decide)) (by decide)) e
  have : allB (fun d => !(Nat.beq (itS (d + 1) 2063 ^^^ 2063) 0)) 47 = true := by decide +kernel
  have h2 := allB_at this d (by omega)
  rw [h0] at h2; cases h2
theorem two_ne (i j : Nat) (hi : i < 48) (hj : j < 48) (h : i ≠ j) : restB 48 (2 ^ i + 2 ^ j) ≠ 0 := by
  rcases Nat.lt_or_gt_of_ne h with h | h
  · rw [Nat.add_comm]; exact two_lt i j hj h
  · exact two_lt j i hi h
theorem blind_zero : ∀ n p r l, restB 48 p = 0 → (∀ j, j < n → restB 48 (r * 2 ^ j) = 0) → restB 48 (blindF n p r l) = 0
  | 0, _, _, _, h, _ => h
  | n + 1, p, r, l, h, hr => by
    rw [blindF]
    refine blind_zero n _ _ _ ?_ fun j hj => ?_
    · split
      · rw [restB_xor, h, Nat.zero_xor]
        simpa using hr 0 (by omega)
      · exact h
    · rw [Nat.mul_assoc, Nat.mul_comm 2, ← Nat.pow_succ]; exact hr (j + 1) (by omega)
theorem blind_lt : ∀ n p r l, p < 2 ^ 48 → (∀ j, j < n → r * 2 ^ j < 2 ^ 48) → blindF n p r l < 2 ^ 48
  | 0, _, _, _, h, _ => h
  | n + 1, p, r, l, h, hr => by
    rw [blindF]
    refine blind_lt n _ _ _ ?_ fun j hj => ?_
    · split
      · exact Nat.xor_lt_two_pow h (by simpa using hr 0 (by omega))
      · exact h
    · rw [Nat.mul_assoc, Nat.mul_comm 2, ← Nat.pow_succ]; exact hr (j + 1) (by omega)
theorem blind_rest (t : Nat) : restB 48 (blindF 36 0 6159 t) = 0 ∧ blindF 36 0 6159 t < 2 ^ 48 := by
  have h1 : allB (fun j => Nat.beq (restB 48 (6159 * 2 ^ j)) 0) 36 = true := by decide +kernel
  have h2 : allB (fun j => Nat.blt (6159 * 2 ^ j) (2 ^ 48)) 36 = true := by decide +kernel
  exact ⟨blind_zero _ _ _ _ (restB_zero 48) fun j hj => Nat.eq_of_beq_eq_true (allB_at h1 j hj), blind_lt _ _ _ _ (by decide) fun j hj => Nat.blt_eq.mp (allB_at h2 j hj)⟩
/-- ones, odd or even in number -/
noncomputable def par : Nat → Nat → Nat
  | 0, _ => 0
  | n + 1, R => (R % 2) ^^^ par n (R / 2)
theorem par_xor : ∀ n a b, par n (a ^^^ b) = par n a ^^^ par n b
  | 0, _, _ => by simp [par]
  | n + 1, a, b => by
    have e : (a ^^^ b) / 2 = (a / 2) ^^^ (b / 2) := by have := xor_div a b 1; simpa using this
    have m1 : (a ^^^ b) % 2 = (a % 2) ^^^ (b % 2) := by have := Nat.xor_mod_two_pow (a := a) (b := b) (n := 1); simpa using this
    rw [par, par, par, e, par_xor n, m1]
    rw [Nat.xor_assoc, Nat.xor_assoc, ← Nat.xor_assoc (b % 2), Nat.xor_comm (b % 2), Nat.xor_assoc]
theorem par_ext : ∀ k R, R < 2 ^ k → par (k + 1) R = par k R
  | 0, R, h => by
    have : R = 0 := by simpa using h
    subst this; rfl
  | k + 1, R, h => by
    rw [par, par_ext k (R / 2) (by rw [Nat.pow_succ] at h; omega)]; rfl
theorem par_S (r : Nat) (h : r < 4096) : par 12 (S r) = par 12 r := by
  rw [← par_ext 12 (S r) (S_lt r h), S_alt r h, par_xor]
  have e1 : par 13 (r * 2) = par 12 r := by
    rw [par, show r * 2 % 2 = 0 from by omega, show r * 2 / 2 = r from by omega, Nat.zero_xor]
  have e2 : par 13 (6159 * (r / 2048)) = 0 := by
    have : r / 2048 = 0 ∨ r / 2048 = 1 := by omega
    rcases this with p | p <;> rw [p] <;> decide
  rw [e1, e2, Nat.xor_zero]
theorem par_rest : ∀ n R, par 12 (restB n R) = par n R
  | 0, _ => by show par 12 0 = 0; decide
  | n + 1, R => by
    rw [restB, par_xor, par_S _ (restB_lt _ _), par_rest n, par]
    congr 1
    rcases Nat.mod_two_eq_zero_or_one R with p | p <;> rw [p] <;> decide
theorem kst_self : ∀ {ps : List (Str × Value)} {m : Str → Option Value}, (∀ p ∈ ps, m p.1 = some p.2) → m = kstB m ps
  | [], _, _ => rfl
  | p :: ps, m, h => by
    have ih := kst_self (ps := ps) (m := m) fun q hq => h q (.tail _ hq)
    funext z
    by_cases e : z = p.1
    · subst e; simp only [kstB, if_pos rfl]; exact h p (.head _)
    · have := congrFun ih z
      simp only [kstB, if_neg e]; exact this
/-- a turn's end in a loop with an else -/
noncomputable def EPost (h₀ : Heap) (L : Addr) (news own : List (Addr × Obj)) (J : (Str → Option Value) → Prop) (s₁ : Shared) (Q : Flow → Shared → Prop) (f : Flow) (s₂ : Shared) : Prop :=
  match f with
  | .ret v => Q (.ret v) s₂
  | .brk => Q .next s₂
  | _ => ∃ h' tk m' news', s₂ = { s₁ with heap := h', toks := tk } ∧ Fr h₀ L h' m' ∧ News h₀ L h' news' ∧ (∀ p ∈ news, p ∈ news') ∧ (∀ p ∈ own, p ∈ news') ∧ J m'
noncomputable def OPost {σ : Type} (h₀ : Heap) (L : Addr) (Led : σ → List (Addr × Obj)) (own : List (Addr × Obj)) (J : σ → (Str → Option Value) → Prop) (s₁ : Shared) (Q : Flow → Shared → Prop) (f : Flow) (s₂ : Shared) : Prop :=
  match f with
  | .ret v => Q (.ret v) s₂
  | .brk => Q .next s₂
  | _ => ∃ h' tk m' news' c, s₂ = { s₁ with heap := h', toks := tk } ∧ Fr h₀ L h' m' ∧ News h₀ L h' news' ∧ (∀ p ∈ Led c, p ∈ news') ∧ (∀ p ∈ own, p ∈ news') ∧ J c m'
section
variable {prog : Program} {w : World} {A : Around} {E : Value → Shared → Prop} {s : Shared} {env : Env} {h₀ : Heap} {target : Expr} {body orelse : List Stmt} {Q : Flow → Shared → Prop} {m : Str → Option Value} {news : List (Addr × Obj)}
theorem epost_next {own news' : List (Addr × Obj)} {L : Addr} {J : (Str → Option Value) → Prop} {s₁ : Shared} {h' : Heap} {tk : Nat} {m' : Str → Option Value} (F : Fr h₀ L h' m') (N : News h₀ L h' news') (h1 : ∀ p ∈ news, p ∈ news') (h2 : ∀ p ∈ own, p ∈ news') (hj : J m') :
    EPost h₀ L news own J s₁ Q .next { s₁ with heap := h', toks := tk } := ⟨h', tk, m', news', rfl, F, N, h1, h2, hj⟩
theorem opost_next {σ : Type} {Led : σ → List (Addr × Obj)} (c : σ) {own news' : List (Addr × Obj)} {L : Addr} {J : σ → (Str → Option Value) → Prop} {s₁ : Shared} {h' : Heap} {tk : Nat} {m' : Str → Option Value} (F : Fr h₀ L h' m') (N : News h₀ L h' news') (h1 : ∀ p ∈ Led c, p ∈ news') (h2 : ∀ p ∈ own, p ∈ news') (hj : J c m') :
    OPost h₀ L Led own J s₁ Q .next { s₁ with heap := h', toks := tk } := ⟨h', tk, m', news', c, rfl, F, N, h1, h2, hj⟩
theorem ktu_else {R : Result → Shared → Prop} {I : Addr} {fp wr : List Addr} {n : Nat} {P Md : Nat → Value → Heap → Prop} {St : Nat → Heap → Prop} (W : KTurns prog w A target I fp wr n P Md St)
    (hLf : env.locals ∉ fp) (hwr : ∀ b ∈ wr, h₀.get? b = none) (hnw : ∀ p ∈ news, p.1 ∉ fp) (hst : St 0 s.heap) (F : Fr h₀ env.locals s.heap m) (N : News h₀ env.locals s.heap news)
    (J : Nat → (Str → Option Value) → Prop) (h0 : J 0 m)
    (step : ∀ i v m₁ h₁ tk₁ own, i < n → P i v h₁ → J i m₁ → OwnOff own (news.map (·.1)) →
      Fr h₀ env.locals h₁ m₁ → News h₀ env.locals h₁ (news ++ own) →
      wpAny (model prog w) A (assign target env v) (fun _ s₂ => wpAny (model prog w) A (execs body env)
        (EPost h₀ env.locals news own (J (i + 1)) { s with heap := h₁, toks := tk₁ } fun f s' => R (.ok f) s') (notedBy (model prog w) A env fun e s' => R (.error e) s') s₂) (notedBy (model prog w) A env fun e s' => R (.error e) s') { s with heap := h₁, toks := tk₁ })
    (hR : ∀ h' tk m', Fr h₀ env.locals h' m' → News h₀ env.locals h' news → J n m' → wpAny (model prog w) A (execs orelse env) (fun f s₃ => R (.ok f) s₃) (notedBy (model prog w) A env fun e s' => R (.error e) s') { s with heap := h', toks := tk }) :
    codeAny (model prog w) A (.forLoop target (.ref I) body orelse env) R s := by
  have hLw : env.locals ∉ wr := fun h => hLf (W.sub _ h)
  have hnw' : ∀ p ∈ news, p.1 ∉ wr := fun p hp h => hnw p hp (W.sub _ h)
  have old : ∀ b o, h₀.get? b = some o → b ∉ wr := fun b o e hb => by rw [hwr b hb] at e; cases e
  refine codeAny_forLoop_any
    (fun k s' => ∃ h' tk m' i, s' = { s with heap := h', toks := tk } ∧ St i h' ∧ Fr h₀ env.locals h' m' ∧ News h₀ env.locals h' news ∧ J i m' ∧ i ≤ n ∧ k = n + 1 - i) ?_ (n + 1)
    ⟨s.heap, s.toks, m, 0, rfl, hst, F, N, h0, Nat.zero_le _, rfl⟩
  rintro k s' ⟨h', tk, m', i, rfl, hst', F', N', hJ, hi, rfl⟩
  have next : ∀ h₁ : Heap, (∀ b o, b ∉ wr → h'.get? b = some o → h₁.get? b = some o) → Fr h₀ env.locals h₁ m' ∧ News h₀ env.locals h₁ news := fun h₁ hk₁ =>
    ⟨⟨F'.ns.at' fun o e => hk₁ _ o hLw e, fun b o e => hk₁ b o (old b o e) (F'.keep b o e), F'.above⟩, fun p hp => ⟨hk₁ _ _ (hnw' p hp) (N' p hp).1, (N' p hp).2⟩⟩
  by_cases hlt : i < n
  · refine W.item i _ _ _ hlt hst' fun v h₁ tk₁ hMd hk₁ => ?_
    refine W.go i v _ _ _ hMd fun h₂ hP hst₂ hk₂ => ?_
    obtain ⟨F₂, N₂⟩ := next h₂ fun b o hb x => hk₂ b o hb (hk₁ b o hb x)
    have Nown : News h₀ env.locals h₂ (PyProof.Rows.ownOf h₀ fp h₂) := news_ownOf hLf
    have hoff : OwnOff (PyProof.Rows.ownOf h₀ fp h₂) (news.map (·.1)) := by
      intro p hp b hb e
      obtain ⟨q, hq, rfl⟩ := List.mem_map.mp hb
      exact hnw q hq (e ▸ ownOf_sub p hp)
    refine wpAny_mono (step i v m' h₂ tk₁ (PyProof.Rows.ownOf h₀ fp h₂) hlt hP hJ hoff F₂ (N₂.append Nown)) (fun _ s₂ h₂' => wpAny_mono h₂' (fun f s₃ h₃ => ?_) fun _ _ e => e) fun _ _ e => e
    have fin : (∃ h' tk m' news', s₃ = { s with heap := h', toks := tk } ∧ Fr h₀ env.locals h' m' ∧ News h₀ env.locals h' news' ∧ (∀ p ∈ news, p ∈ news') ∧ (∀ p ∈ PyProof.Rows.ownOf h₀ fp h₂, p ∈ news') ∧ J (i + 1) m') → ∃ k', k' < n + 1 - i ∧ ∃ h' tk m' i', s₃ = { s with heap := h', toks := tk } ∧ St i' h' ∧ Fr h₀ env.locals h' m' ∧ News h₀ env.locals h' news ∧ J i' m' ∧ i' ≤ n ∧ k' = n + 1 - i' := by
      rintro ⟨h₃', tk₃, m₂, news₂, rfl, F₃, N₃, q1, q2, hJ₃⟩
      refine ⟨n + 1 - (i + 1), by omega, h₃', tk₃, m₂, i + 1, rfl, ?_, F₃, fun p hp => N₃ p (q1 p hp), hJ₃, hlt, rfl⟩
      refine W.frame _ _ _ hst₂ fun b hb o e => ?_
      cases hn : h₀.get? b with
      | some o₀ =>
        have : o₀ = o := by have q := F₂.keep b o₀ hn; rw [e] at q; exact (Option.some.inj q).symm
        exact this ▸ F₃.keep b o₀ hn
      | none => exact (N₃ _ (q2 _ (mem_ownOf hb hn e))).1
    cases f with
    | ret v => exact h₃
    | brk => exact h₃
    | cont => exact fin h₃
    | next => exact fin h₃
  · have hin : i = n := by omega
    subst hin
    refine W.done _ _ _ hst' fun h₁ tk₁ hk₁ => ?_
    obtain ⟨F₁, N₁⟩ := next h₁ hk₁
    exact hR h₁ tk₁ m' F₁ N₁ hJ
/-- a loop over a given tuple, with an else -/
theorem For_else {ax : Addr} {items : Array Value} (J : Nat → (Str → Option Value) → Prop) (hh : A.handled = none) (hl : h₀.IsTuple ax items) (F : Fr h₀ env.locals s.heap m) (N : News h₀ env.locals s.heap news) (h0 : J 0 m)
    (step : ∀ i v m₁ h₁ tk₁ own, items[i]? = some v → J i m₁ → OwnOff own (news.map (·.1)) → Fr h₀ env.locals h₁ m₁ → News h₀ env.locals h₁ (news ++ own) →
      wpAny (model prog w) A (assign target env v) (fun _ s₂ => wpAny (model prog w) A (execs body env) (EPost h₀ env.locals news own (J (i + 1)) { s with heap := h₁, toks := tk₁ } Q) E s₂) E { s with heap := h₁, toks := tk₁ })
    (done : ∀ h' tk m', J items.size m' → Fr h₀ env.locals h' m' → News h₀ env.locals h' news → wpAny (model prog w) A (execs orelse env) Q E { s with heap := h', toks := tk })
    (hE : PassesOwn (model prog w) A env E := by passes_own) :
    wpAny (model prog w) A (pyIter (.ref ax)) (fun it s₂ => codeAny (model prog w) A (.forLoop target it body orelse env) (fun r s' => match r with | .ok f => Q f s' | .error e => cameBackBy (model prog w) A env E e s') s₂) E s := by
  obtain ⟨lo, hg, hc, n, hd⟩ := id hl
  have hax : s.heap.get? ax = some lo := F.keep _ _ hg
  have hls : s.heap.IsTuple ax items := ⟨lo, hax, hc, n, hd⟩
  have hlt : ax < s.heap.objs.size := Heap.lt_size hax
  refine wpAny_pyIter_tuple hls ?_
  have hfp : ∀ b ∈ [s.heap.objs.size, ax], b = s.heap.objs.size ∨ b = ax := fun b hb => by simpa using hb
  refine ktu_else (news := news) (KTurns.ofWalks (Walks.tuple hh s.heap.objs.size ax (Nat.ne_of_lt hlt) items) fun i v s Q E st q => letGo_tupleiter st.1 q) (fun hI => ?_) (fun b hb => ?_) (fun p hp hI => ?_)
    ⟨⟨_, Heap.get?_push_size _ rfl, rfl, rfl⟩, hls.at fun o e => Heap.get?_push_of_some _ e⟩ (F.push _) (fun p hp => ⟨Heap.get?_push_of_some _ (N p hp).1, (N p hp).2⟩) J h0 (fun i v m₁ h₁ tk₁ own hi hP hJ ho F₁ N₁ => ?_) fun h' tk m' F' N' hJ => ?_
  · rcases hfp _ hI with e | e
    · exact absurd F.ns.lt (e ▸ Nat.lt_irrefl _)
    · exact absurd (Heap.lt_size hg) (Nat.not_lt.mpr (e ▸ F.above))
  · rw [List.mem_singleton.mp hb]
    exact next_is_new F
  · rcases hfp _ hI with e | e
    · exact absurd (Heap.lt_size (N p hp).1) (e ▸ Nat.lt_irrefl _)
    · have := (N p hp).2.2; rw [e, hg] at this; cases this
  · refine wpAny_mono (step i v m₁ h₁ tk₁ own hP hJ ho F₁ N₁) (fun _ _ x => ?_) hE
    refine wpAny_mono x (fun f s₃ h => ?_) hE
    cases f <;> exact h
  · exact wpAny_mono (done h' tk m' hJ F' N') (fun f s₃ h => h) hE
/-- a loop over enumerate of a given tuple -/
theorem enum_turns {σ : Type} {ax : Addr} {elts : List Expr} {k : Nat} {pos : Pos} {items : Array Value} (Led : σ → List (Addr × Obj)) (c₀ : σ) (J : Nat → σ → (Str → Option Value) → Prop) (hh : A.handled = none) (hl : h₀.IsTuple ax items) (F : Fr h₀ env.locals s.heap m) (N : News h₀ env.locals s.heap (Led c₀)) (h0 : J 0 c₀ m) (ha : ∀ c, (Led c).map (·.1) = (Led c₀).map (·.1))
    (step : ∀ i x t T c m₁ h₁ tk₁ own, items[i]? = some x → h₁.IsTuple T #[.int (i : Nat) t, x] → J i c m₁ → OwnOff own ((Led c₀).map (·.1)) → Fr h₀ env.locals h₁ m₁ → News h₀ env.locals h₁ (Led c ++ own) →
      wpAny (model prog w) A (assign (.Tuple elts k pos) env (.ref T)) (fun _ s₂ => wpAny (model prog w) A (execs body env) (OPost h₀ env.locals Led own (J (i + 1)) { s with heap := h₁, toks := tk₁ } Q) E s₂) E { s with heap := h₁, toks := tk₁ })
    (done : ∀ c h' tk m', J items.size c m' → Fr h₀ env.locals h' m' → News h₀ env.locals h' (Led c) → Q .next { s with heap := h', toks := tk }) :
    wpAny (model prog w) A (call (.type "enumerate") [.ref ax]) (fun xv s₁ => wpAny (model prog w) A (pyIter xv) (fun it s₂ => TurnsAt prog w A h₀ env (.Tuple elts k pos) body Q E it s₂) E s₁) E s := by
  obtain ⟨lo, hg, hc, n, hd⟩ := id hl
  have hax : s.heap.get? ax = some lo := F.keep _ _ hg
  have hls : s.heap.IsTuple ax items := ⟨lo, hax, hc, n, hd⟩
  have hlt : ax < s.heap.objs.size := Heap.lt_size hax
  refine call_enumT hls fun h' hE hI hsz hk => ?_
  refine wpAny_pyIter_enum hE ?_
  have hfp : ∀ b ∈ [s.heap.objs.size + 1, s.heap.objs.size, ax], b = s.heap.objs.size + 1 ∨ b = s.heap.objs.size ∨ b = ax := fun b hb => by simpa using hb
  have D := drawsTuple (prog := prog) (w := w) (A := A.in1) (by exact hh) s.heap.objs.size ax (Nat.ne_of_lt hlt) items
  have W := KTurns.ofWalksU (elts := elts) (k := k) (pos := pos) (WalksT.enumerateD D (s.heap.objs.size + 1) (Nat.succ_ne_self _) (by simp only [List.mem_cons, List.not_mem_nil, or_false, not_or]; exact ⟨Nat.succ_ne_self _, Nat.ne_of_gt (Nat.lt_succ_of_lt hlt)⟩) (by simp)).toU
  have off : ∀ c, ∀ p ∈ Led c, p.1 < s.heap.objs.size := fun c p hp => by
    have : p.1 ∈ (Led c₀).map (·.1) := ha c ▸ List.mem_map.mpr ⟨p, hp, rfl⟩
    obtain ⟨q, hq, e⟩ := List.mem_map.mp this
    exact e ▸ Heap.lt_size (N q hq).1
  have offw : ∀ c, ∀ p ∈ Led c, p.1 ∉ [s.heap.objs.size + 1, s.heap.objs.size] := fun c p hp hI => by
    have := off c p hp
    have hI' : p.1 = s.heap.objs.size + 1 ∨ p.1 = s.heap.objs.size := by simpa using hI
    rcases hI' with e | e <;> (rw [e] at this; exact absurd this (by first | exact Nat.not_lt.mpr (Nat.le_succ _) | exact Nat.lt_irrefl _))
  refine ⟨_, _, _, _, _, _, _, m, Led c₀, fun i m₁ news₁ => ∃ c, news₁ = Led c ∧ J i c m₁, rfl, W, fun hI => ?_, fun b hb => ?_, offw c₀, ⟨⟨_, hE⟩, hI, hls.at fun o e => hk _ _ e⟩, F.keeps hk, fun p hp => ⟨hk _ _ (N p hp).1, (N p hp).2⟩, ⟨c₀, rfl, h0⟩, ?_, ?_⟩
  · rcases hfp _ hI with e | e | e
    · have := F.ns.lt; rw [e] at this; exact absurd this (Nat.not_lt.mpr (Nat.le_succ _))
    · exact absurd F.ns.lt (e ▸ Nat.lt_irrefl _)
    · exact absurd (Heap.lt_size hg) (Nat.not_lt.mpr (e ▸ F.above))
  · have hb' : b = s.heap.objs.size + 1 ∨ b = s.heap.objs.size := by simpa using hb
    have e0 := next_is_new F
    cases e : h₀.get? b with
    | none => rfl
    | some o =>
      have := Heap.lt_size (F.keep _ _ e)
      rcases hb' with q | q <;> (rw [q] at this; exact absurd this (by first | exact Nat.not_lt.mpr (Nat.le_succ _) | exact Nat.lt_irrefl _))
  · rintro i v m₁ news₁ h₁ tk₁ own hi ⟨T, vals, rfl, ⟨t, x, hx, rfl⟩, hT⟩ ⟨c, rfl, hJ⟩ _ hown _ _ _ F₁ N₁
    have hoff : OwnOff own ((Led c₀).map (·.1)) := by
      intro p hp b hb e
      obtain ⟨q, hq, rfl⟩ := List.mem_map.mp hb
      have h1 := off c₀ q hq
      rcases hfp _ (hown p hp) with e1 | e1 | e1
      · rw [← e, e1] at h1; exact absurd h1 (Nat.not_lt.mpr (Nat.le_succ _))
      · rw [← e, e1] at h1; exact absurd h1 (Nat.lt_irrefl _)
      · have := (N₁ p (List.mem_append_left _ hp)).2.2; rw [e1, hg] at this; cases this
    refine wpAny_mono (step i x t T c m₁ h₁ tk₁ own hx hT hJ hoff F₁ (fun p hp => N₁ p ((List.mem_append.mp hp).elim (fun h => List.mem_append_right _ h) fun h => List.mem_append_left _ h))) (fun _ s₂ h₂ => wpAny_mono h₂ (fun f s₃ h₃ => ?_) fun _ _ e => e) fun _ _ e => e
    have fin : (∃ h' tk m' news' c, s₃ = { s with heap := h', toks := tk } ∧ Fr h₀ env.locals h' m' ∧ News h₀ env.locals h' news' ∧ (∀ p ∈ Led c, p ∈ news') ∧ (∀ p ∈ own, p ∈ news') ∧ J (i + 1) c m') → LoopStepU h₀ env.locals [s.heap.objs.size + 1, s.heap.objs.size] own (fun m₁ news₁ => ∃ c, news₁ = Led c ∧ J (i + 1) c m₁) { s with heap := h₁, toks := tk₁ } .next s₃ := by
      rintro ⟨h₃', tk₃, m₂, news₂, c', rfl, F₃, N₃, q1, q2, hJ₃⟩
      exact ⟨rfl, h₃', tk₃, m₂, Led c', rfl, F₃, fun p hp => N₃ p ((List.mem_append.mp hp).elim (q2 p) (q1 p)), offw c', c', rfl, hJ₃⟩
    cases f with
    | ret v => exact .ret h₃
    | brk => exact .brk h₃
    | next => exact .next (fin h₃)
    | cont => exact .cont (fin h₃)
  · rintro h'' tk m' news' F' N' _ ⟨c, rfl, hJ⟩
    exact done c h'' tk m' hJ F' N'
end
/-- an entry of the table: its address, bit, sign -/
structure Ent where
  a : Addr
  b : Int
  bt : Tok
  c : String
  ct : Tok
noncomputable def fmT : List (Addr × List Ent) := [
  (43, [⟨36, 40960, 220, "l", 248⟩, ⟨37, 49152, 222, "s", 249⟩, ⟨38, 32768, 216, "-", 250⟩, ⟨39, 24576, 214, "b", 251⟩, ⟨40, 16384, 210, "d", 252⟩, ⟨41, 8192, 212, "c", 253⟩, ⟨42, 4096, 218, "p", 254⟩]),
  (45, [⟨44, 256, 230, "r", 255⟩]), (47, [⟨46, 128, 232, "w", 256⟩]), (51, [⟨48, 2112, 257, "s", 258⟩, ⟨49, 2048, 224, "S", 259⟩, ⟨50, 64, 234, "x", 260⟩]),
  (53, [⟨52, 32, 236, "r", 261⟩]), (55, [⟨54, 16, 238, "w", 262⟩]), (59, [⟨56, 1032, 263, "s", 264⟩, ⟨57, 1024, 226, "S", 265⟩, ⟨58, 8, 240, "x", 266⟩]),
  (61, [⟨60, 4, 242, "r", 267⟩]), (63, [⟨62, 2, 244, "w", 268⟩]), (67, [⟨64, 513, 269, "t", 270⟩, ⟨65, 512, 228, "T", 271⟩, ⟨66, 1, 246, "x", 272⟩])]
noncomputable def EntIn (g : Heap) (e : Ent) : Prop := g.IsTuple e.a #[.int e.b e.bt, .str (Str.ofString e.c) e.ct]
noncomputable def TabIn (g : Heap) (e : Addr × List Ent) : Prop := g.IsTuple e.1 (e.2.map fun q => Value.ref q.a).toArray ∧ ∀ q ∈ e.2, EntIn g q
theorem tup_in {g : Heap} {K : Frag} {a : Addr} {items : Array Value} {n : Nat} {d : Option Addr} {sl : Array (Option Value)} (X : K.In g) (h : K.lookup a = some { cls := .type "tuple", dict := d, data := .seq items n, slots := sl }) : g.IsTuple a items := ⟨_, X _ _ h, rfl, _, rfl⟩
theorem fm_in {P : Params} {g : Heap} (X : (KK P).In g) : (∀ e ∈ fmT, TabIn g e) ∧ g.IsTuple 68 (fmT.map fun e => Value.ref e.1).toArray := by
  refine ⟨?_, tup_in X (n := 0) rfl⟩
  unfold fmT
  simp only [List.forall_mem_cons, List.not_mem_nil, false_implies, implies_true, and_true, TabIn, EntIn]
  repeat' apply And.intro
  all_goals exact tup_in X (n := 0) rfl
noncomputable def hit (row idx bit : Int) : Bool := if idx = 0 then Builtin.bitAnd row 61440 == bit else Builtin.bitAnd row bit == bit
noncomputable def look (row idx : Int) : List Ent → Str
  | [] => if idx = 0 then Str.ofString "?" else Str.ofString "-"
  | e :: r => if hit row idx e.b then Str.ofString e.c else look row idx r
noncomputable def looks (row : Int) : Int → List (Addr × List Ent) → List Str
  | _, [] => []
  | i, e :: r => look row i e.2 :: looks row (i + 1) r
theorem strs_snoc {vs : List Value} {ns : List Str} {n : Str} {t : Tok} (h : StrsAre vs ns) : StrsAre (vs ++ [.str n t]) (ns ++ [n]) := by
  induction h with
  | nil => exact .cons n t .nil
  | cons a u _ ih => exact .cons a u ih
theorem strs_len {vs : List Value} {ns : List Str} (h : StrsAre vs ns) : vs.length = ns.length := by
  induction h with
  | nil => rfl
  | cons _ _ _ ih => exact congrArg (· + 1) ih
theorem epost_brk {h₀ : Heap} {L : Addr} {news own : List (Addr × Obj)} {J : (Str → Option Value) → Prop} {s₁ s₂ : Shared} {Q : Flow → Shared → Prop} (h : Q .next s₂) : EPost h₀ L news own J s₁ Q .brk s₂ := h
theorem looks_at (row : Int) : ∀ (l : List (Addr × List Ent)) (j : Int) (i : Nat) (e : Addr × List Ent), l[i]? = some e → (looks row j l).take (i + 1) = (looks row j l).take i ++ [look row (j + (i : Nat)) e.2]
  | _ :: _, j, 0, e, h => by
    simp only [List.getElem?_cons_zero, Option.some.injEq] at h
    subst h
    simp [looks]
  | x :: l, j, i + 1, e, h => by
    simp only [List.getElem?_cons_succ] at h
    have := looks_at row l (j + 1) i e h
    simp only [looks, List.take_succ_cons, List.cons_append, List.cons.injEq, true_and]
    rw [this]
    rw [show j + 1 + (i : Int) = j + ((i + 1 : Nat) : Int) from by omega]
noncomputable def FmJ (row : Int) (t : Tok) (P : Addr) (i : Nat) (c : List Value × Nat) (m : Str → Option Value) : Prop :=
  StrsAre c.1 ((looks row 0 fmT).take i) ∧ ∀ p ∈ [(Str.ofString "mode", Value.int row t), (Str.ofString "perm", Value.ref P)], m p.1 = some p.2
noncomputable def InJ (row : Int) (t : Tok) (P : Addr) (i : Nat) (ti : Tok) (e : Addr × List Ent) (j : Nat) (m : Str → Option Value) : Prop :=
  look row (i : Nat) e.2 = look row (i : Nat) (e.2.drop j) ∧ ∀ p ∈ [(Str.ofString "mode", Value.int row t), (Str.ofString "perm", Value.ref P), (Str.ofString "index", Value.int (i : Nat) ti), (Str.ofString "table", Value.ref e.1)], m p.1 = some p.2
theorem look_len (row i : Int) : ∀ es : List Ent, (∀ e ∈ es, (Str.ofString e.c).length = 1) → (look row i es).length = 1
  | [], _ => by unfold look; split <;> rfl
  | e :: es, h => by
    unfold look
    split
    · exact h e (.head _)
    · exact look_len row i es fun q hq => h q (.tail _ hq)
theorem looks_sum (row : Int) : ((looks row 0 fmT).map (·.length)).sum = 10 := by
  have h : ∀ e ∈ fmT, ∀ q ∈ e.2, (Str.ofString q.c).length = 1 := by decide
  have g : ∀ (l : List (Addr × List Ent)) (i : Int), (∀ e ∈ l, ∀ q ∈ e.2, (Str.ofString q.c).length = 1) → ((looks row i l).map (·.length)).sum = l.length := by
    intro l
    induction l with
    | nil => intro _ _; rfl
    | cons e l ih =>
      intro i h
      simp only [looks, List.map_cons, List.sum_cons, List.length_cons]
      rw [look_len row i e.2 (h e (.head _)), ih (i + 1) fun q hq => h q (.tail _ hq)]; omega
  exact g fmT 0 h
theorem filemode_ok' (w : World) (row : Int) (t : Tok) (h0 : 0 ≤ row) (h1 : row < 4096) : Pure w 2 75 [.int row t] [] (fun _ => True) (fun t => .str (Txt.join (Str.ofString "") (looks row 0 fmT)) t) := by
  ((((w_top off; intro p loose mean mg mb dp un gd cn cs a ccd cl outer A₀ base h₀ L m s Q E B F X T hk hpre hdp hun hret; ((have hfill : (fun (_ : OpenLaw) (_ : Params → Frag) => True) PySem.Challenge.rw_om0013_01 KK := (by k_fill; trivial); clear hfill)))); ((refine wpAny_call ?_; k_dflt (refine' enter0 ?k1 ?k2 ?k3 ?k5 rfl rfl (by assumption) ?k6 ?k7 ?k8 ?k9 ?kB ?_ ?c2 ?c3 ?c4 ?c5; (case k1 => k_asm); (case k2 => k_asm); (case k3 => k_asm); (case k5 => k_asm); (case k6 => k_is); (case k7 => k_is); (case k8 => ktr_room); (case k9 => (first | exact BindsTo.of_eq rfl | exact binds_K (by k_in) rfl (by k_is) rfl rfl rfl)); (case c5 => decide); (case kB => exact locs rfl); (case c2 => exact rfl); (case c3 => exact rfl); (case c4 => exact rfl); k_whole); intro g9 L9 h9 kp9 F9 N9 B9 X9 T9; (((try dsimp only); (try k_fold)))))))
  (repeat' (first | ((k_unfold; (try dsimp only))) | ((fail_if_success (with_reducible show wpAny _ _ (exec (Stmt.While _ _ _ _) _) _ _ _)); (((fail_if_success (with_reducible show wpAny _ _ (pyIter _) _ _ _)); (fail_if_success (with_reducible show wpAny _ _ (exec (Stmt.For _ _ _ _ _) _) _ _ _)); (fail_if_success (with_reducible show wpAny _ _ (eval (Expr.ListComp _ _ _ _) _) _ _ _)); (fail_if_success (with_reducible show wpAny _ _ (exec (Stmt.Assign _ (Expr.ListComp _ _ _ _) _) _) _ _ _)); walk1; (try dsimp only)))) | dsimp only))
  rename Fr _ _ _ _ => F0
  refine For_turns F0 ?_
  (repeat' (first | ((k_unfold; (try dsimp only))) | ((fail_if_success (with_reducible show wpAny _ _ (exec (Stmt.While _ _ _ _) _) _ _ _)); (((fail_if_success (with_reducible show wpAny _ _ (pyIter _) _ _ _)); (fail_if_success (with_reducible show wpAny _ _ (exec (Stmt.For _ _ _ _ _) _) _ _ _)); (fail_if_success (with_reducible show wpAny _ _ (eval (Expr.ListComp _ _ _ _) _) _ _ _)); (fail_if_success (with_reducible show wpAny _ _ (exec (Stmt.Assign _ (Expr.ListComp _ _ _ _) _) _) _ _ _)); walk1; (try dsimp only)))) | dsimp only))
  rename Fr _ _ _ _ => F0
  rename News _ _ _ _ => N0
  rename Frag.In _ _ => X0
  obtain ⟨htab, h68⟩ := fm_in X0
  refine enum_turns (σ := List Value × Nat) (fun c => [(_, W.listOf c.1.toArray c.2)]) ([], 0) (FmJ row t _) rfl h68 F0 N0 ⟨.nil, by kst_all⟩ (fun _ => rfl) ?_ ?_
  · clear F0 N0
    rintro i x ti T ⟨vs, nn⟩ m₁ h₁ tk₁ own hx hT ⟨hss, hm⟩ hoff F1 N1
    rw [kst_self hm] at F1
    simp only [kstB, List.cons_append, List.nil_append, List.map_cons, List.map_nil] at F1 N1 hoff ⊢
    have hMk9 := kstMark
    obtain ⟨e, he, rfl⟩ : ∃ e, fmT[i]? = some e ∧ x = Value.ref e.1 := by
      rw [List.getElem?_toArray, List.getElem?_map] at hx
      cases h : fmT[i]? with
      | none => rw [h] at hx; cases hx
      | some e => rw [h] at hx; exact ⟨e, rfl, (Option.some.inj hx).symm⟩
    have hvl : vs.length ≤ 12 := by
      rw [strs_len hss, List.length_take]
      have : (looks row 0 fmT).length = 10 := rfl
      omega
    have hss1 : ∀ tt, StrsAre (vs ++ [.str (look row (i : Nat) e.2) tt]) ((looks row 0 fmT).take (i + 1)) := fun tt => by
      rw [looks_at row fmT 0 i e he, Int.zero_add]; exact strs_snoc hss
    obtain ⟨ht1, ht2⟩ := htab e (List.mem_of_getElem? he)
    refine unpackN_ F1 N1 hT rfl rfl rfl ?_
    clear F1 N1
    intro h2 F2 N2
    dsimp only
    (repeat' (first | ((k_unfold; (try dsimp only))) | ((fail_if_success (with_reducible show wpAny _ _ (exec (Stmt.While _ _ _ _) _) _ _ _)); (((fail_if_success (with_reducible show wpAny _ _ (pyIter _) _ _ _)); (fail_if_success (with_reducible show wpAny _ _ (exec (Stmt.For _ _ _ _ _) _) _ _ _)); (fail_if_success (with_reducible show wpAny _ _ (eval (Expr.ListComp _ _ _ _) _) _ _ _)); (fail_if_success (with_reducible show wpAny _ _ (exec (Stmt.Assign _ (Expr.ListComp _ _ _ _) _) _) _ _ _)); walk1; (try dsimp only)))) | dsimp only))
    refine wpAny_For ?_
    (repeat' (first | ((k_unfold; (try dsimp only))) | ((fail_if_success (with_reducible show wpAny _ _ (exec (Stmt.While _ _ _ _) _) _ _ _)); (((fail_if_success (with_reducible show wpAny _ _ (pyIter _) _ _ _)); (fail_if_success (with_reducible show wpAny _ _ (exec (Stmt.For _ _ _ _ _) _) _ _ _)); (fail_if_success (with_reducible show wpAny _ _ (eval (Expr.ListComp _ _ _ _) _) _ _ _)); (fail_if_success (with_reducible show wpAny _ _ (exec (Stmt.Assign _ (Expr.ListComp _ _ _ _) _) _) _ _ _)); walk1; (try dsimp only)))) | dsimp only))
    rename Fr _ _ _ _ => F3
    rename News _ _ _ _ => N3
    refine For_else (InJ row t _ i ti e) rfl ht1 F3 N3 ⟨rfl, by kst_all⟩ ?_ ?_
    · clear F2 N2 F3 N3
      rintro j v m₂ h₃ tk₃ own₂ hv ⟨hlk, hm₂⟩ hoff₂ F4 N4
      rw [kst_self hm₂] at F4
      obtain ⟨q, hq, rfl⟩ : ∃ q, e.2[j]? = some q ∧ v = Value.ref q.a := by
        rw [List.getElem?_toArray, List.getElem?_map] at hv
        cases h : e.2[j]? with
        | none => rw [h] at hv; cases hv
        | some e => rw [h] at hv; exact ⟨e, rfl, (Option.some.inj hv).symm⟩
      have hqt : IsTup h₃ q.a #[.int q.b q.bt, .str (Str.ofString q.c) q.ct] := Heap.IsTuple.at (ht2 q (List.mem_of_getElem? hq)) fun o x => F4.keep _ o x
      simp only [kstB, List.cons_append, List.map_cons] at F4 N4 hoff₂ ⊢
      have hoff3 : OwnOff (own ++ own₂) [_] := fun p hp b hb => (List.mem_append.mp hp).elim (fun h => hoff p h b hb) fun h => hoff₂ p h b (by rw [List.mem_singleton.mp hb]; exact .head _)
      have hme1 : ∀ p ∈ own, p ∈ own ++ own₂ := fun p hp => List.mem_append_left _ hp
      have hme2 : ∀ p ∈ own₂, p ∈ own ++ own₂ := fun p hp => List.mem_append_right _ hp
      generalize own ++ own₂ = own3 at hoff3 hme1 hme2 N4
      have hlk2 : look row (i : Nat) (e.2.drop j) = if hit row (i : Nat) q.b then Str.ofString q.c else look row (i : Nat) (e.2.drop (j + 1)) := by
        have hlt : j < e.2.length := (List.getElem?_eq_some_iff.mp hq).1
        rw [List.drop_eq_getElem_cons hlt, (List.getElem?_eq_some_iff.mp hq).2]; rfl
      refine unpackN_ F4 N4 hqt rfl rfl rfl ?_
      clear F4 N4 hqt
      intro h4 F4 N4
      dsimp only
      (repeat' (first | ((k_unfold; (try dsimp only))) | ((fail_if_success (with_reducible show wpAny _ _ (exec (Stmt.While _ _ _ _) _) _ _ _)); (((fail_if_success (with_reducible show wpAny _ _ (pyIter _) _ _ _)); (fail_if_success (with_reducible show wpAny _ _ (exec (Stmt.For _ _ _ _ _) _) _ _ _)); (fail_if_success (with_reducible show wpAny _ _ (eval (Expr.ListComp _ _ _ _) _) _ _ _)); (fail_if_success (with_reducible show wpAny _ _ (exec (Stmt.Assign _ (Expr.ListComp _ _ _ _) _) _) _ _ _)); walk1; (try dsimp only)))) | dsimp only))
      all_goals (rename Fr _ _ _ _ => F5; rename News _ _ _ _ => N5)
      all_goals first
        | (refine epost_next F5 N5 (fun p hp => (List.mem_cons.mp hp).elim (fun h => h ▸ .head _) fun h => .tail _ (hme1 p h)) (fun p hp => .tail _ (hme2 p hp)) ⟨?_, by kst_all⟩
           rw [hlk, hlk2, if_neg]
           simp only [hit]
           split <;> simp_all)
        | (refine epost_brk ?_
           dsimp only
           (repeat' (first | ((k_unfold; (try dsimp only))) | ((fail_if_success (with_reducible show wpAny _ _ (exec (Stmt.While _ _ _ _) _) _ _ _)); (((fail_if_success (with_reducible show wpAny _ _ (pyIter _) _ _ _)); (fail_if_success (with_reducible show wpAny _ _ (exec (Stmt.For _ _ _ _ _) _) _ _ _)); (fail_if_success (with_reducible show wpAny _ _ (eval (Expr.ListComp _ _ _ _) _) _ _ _)); (fail_if_success (with_reducible show wpAny _ _ (exec (Stmt.Assign _ (Expr.ListComp _ _ _ _) _) _) _ _ _)); walk1; (try dsimp only)))) | dsimp only))
           simp only [List.push_toArray] at N5
           refine opost_next (_, _) F5 N5 (fun p hp => (List.mem_singleton.mp hp) ▸ .head _) (fun p hp => .tail _ (hme1 p hp)) ⟨?_, by kst_all⟩
           have hhit : hit row (i : Nat) q.b = true := by
             simp only [hit]
             split <;> simp_all
           have hl3 : look row (i : Nat) e.2 = Str.ofString q.c := by rw [hlk, hlk2, if_pos hhit]
           rw [← hl3]; exact hss1 _)
    · clear F2 N2 F3 N3
      rintro h₃ tk₃ m₂ ⟨hlk, hm₂⟩ F4 N4
      rw [kst_self hm₂] at F4
      simp only [kstB] at F4
      (repeat' (first | ((k_unfold; (try dsimp only))) | ((fail_if_success (with_reducible show wpAny _ _ (exec (Stmt.While _ _ _ _) _) _ _ _)); (((fail_if_success (with_reducible show wpAny _ _ (pyIter _) _ _ _)); (fail_if_success (with_reducible show wpAny _ _ (exec (Stmt.For _ _ _ _ _) _) _ _ _)); (fail_if_success (with_reducible show wpAny _ _ (eval (Expr.ListComp _ _ _ _) _) _ _ _)); (fail_if_success (with_reducible show wpAny _ _ (exec (Stmt.Assign _ (Expr.ListComp _ _ _ _) _) _) _ _ _)); walk1; (try dsimp only)))) | dsimp only))
      all_goals (rename Fr _ _ _ _ => F5; rename News _ _ _ _ => N5)
      all_goals (
        simp only [List.push_toArray] at N5
        refine opost_next (_, _) F5 N5 (fun p hp => (List.mem_singleton.mp hp) ▸ .head _) (fun p hp => .tail _ hp) ⟨?_, by kst_all⟩
        have hl3 : look row (i : Nat) e.2 = if (i : Int) = 0 then Str.ofString "?" else Str.ofString "-" := by
          rw [hlk, List.size_toArray, List.length_map, List.drop_length]; rfl
        first | rw [if_pos (by assumption)] at hl3 | rw [if_neg (by assumption)] at hl3
        rw [← hl3]; exact hss1 _)
  · clear F0 N0
    rintro ⟨vs, nn⟩ h₁ tk₁ m₁ ⟨hss, hm⟩ F1 N1
    rw [kst_self hm] at F1
    simp only [kstB] at F1
    rw [show (looks row 0 fmT).take (fmT.map fun e => Value.ref e.1).toArray.size = looks row 0 fmT from rfl] at hss
    (repeat' (first | ((k_unfold; (try dsimp only))) | ((fail_if_success (with_reducible show wpAny _ _ (exec (Stmt.While _ _ _ _) _) _ _ _)); (((fail_if_success (with_reducible show wpAny _ _ (pyIter _) _ _ _)); (fail_if_success (with_reducible show wpAny _ _ (exec (Stmt.For _ _ _ _ _) _) _ _ _)); (fail_if_success (with_reducible show wpAny _ _ (eval (Expr.ListComp _ _ _ _) _) _ _ _)); (fail_if_success (with_reducible show wpAny _ _ (exec (Stmt.Assign _ (Expr.ListComp _ _ _ _) _) _) _ _ _)); walk1; (try dsimp only)))) | dsimp only))
    refine join_listW (News.isList N1 (.head _)) hss (by decide) ?_ ?_
    · rw [looks_sum, show (looks row 0 fmT).length = 10 from rfl]; decide
    · intro t' k'
      dsimp only
      k_unfold
      dsimp only
      rename ∀ (t : Tok) (h' : Heap) (tk' : Nat), Kp _ _ → _ => hr9
      exact end_str' hr9 (by assumption) F1 rfl rfl
/-- the listing's signs, as code points -/
noncomputable def cR (R k c : Nat) : Nat := if R / 2 ^ k % 2 = 1 then c else 45
noncomputable def c3 (R j k s S x : Nat) : Nat := if R / 2 ^ j % 2 = 1 then (if R / 2 ^ k % 2 = 1 then s else x) else (if R / 2 ^ k % 2 = 1 then S else 45)
noncomputable def lisC (R : Nat) : List Nat := [63, cR R 8 114, cR R 7 119, c3 R 6 11 115 83 120, cR R 5 114, cR R 4 119, c3 R 3 10 115 83 120, cR R 2 114, cR R 1 119, c3 R 0 9 116 84 120]
theorem hit1 (R i : Nat) (b k : Nat) (hi : i ≠ 0) (hb : b = 2 ^ k) : hit (R : Int) (i : Int) (b : Int) = decide (R / 2 ^ k % 2 = 1) := by
  unfold hit
  rw [if_neg (by omega), ba, hb, and_bit]
  by_cases h : R / 2 ^ k % 2 = 1
  · rw [if_pos h]; simp [h]
  · rw [if_neg h]
    have : 2 ^ k ≠ 0 := Nat.ne_of_gt (Nat.two_pow_pos k)
    simp only [h, decide_false, beq_eq_false_iff_ne, ne_eq, Int.ofNat_inj]
    omega
theorem hit2 (R i : Nat) (b j k : Nat) (hi : i ≠ 0) (hb : b = 2 ^ j ||| 2 ^ k) (h1 : b ≠ 2 ^ j) (h2 : b ≠ 2 ^ k) (h3 : b ≠ 0) : hit (R : Int) (i : Int) (b : Int) = (decide (R / 2 ^ j % 2 = 1) && decide (R / 2 ^ k % 2 = 1)) := by
  unfold hit
  have e : R &&& b = (R &&& 2 ^ j) ||| (R &&& 2 ^ k) := by rw [hb, Nat.and_or_distrib_left]
  rw [if_neg (by omega), ba, e, and_bit, and_bit]
  by_cases hj : R / 2 ^ j % 2 = 1 <;> by_cases hk : R / 2 ^ k % 2 = 1 <;> simp only [hj, hk, if_true, if_false, decide_true, decide_false, Bool.and_true, Bool.and_false, beq_eq_false_iff_ne, ne_eq, Int.ofNat_inj, Nat.or_zero, Nat.zero_or]
  · rw [← hb]; simp
  · exact fun h => h1 h.symm
  · exact fun h => h2 h.symm
  · exact fun h => h3 h.symm
theorem look1 (R i k : Nat) (b a : Nat) (bt ct : Tok) (c : String) (x : Nat) (hi : i ≠ 0) (hb : b = 2 ^ k) (hc : Str.ofString c = ⟨#[x]⟩) : look R i [⟨a, (b : Nat), bt, c, ct⟩] = ⟨#[cR R k x]⟩ := by
  simp only [look, hit1 R i b k hi hb, cR]
  by_cases h : R / 2 ^ k % 2 = 1
  · simp only [h, decide_true, if_true]; exact hc
  · simp only [h, decide_false, Bool.false_eq_true, if_false]
    rw [if_neg (by omega)]; rfl
theorem look3 (R i j k : Nat) (b a a' a'' : Nat) (bt ct bt' ct' bt'' ct'' : Tok) (c c' c'' : String) (x x' x'' : Nat) (hi : i ≠ 0) (hb : b = 2 ^ j ||| 2 ^ k) (h1 : b ≠ 2 ^ j) (h2 : b ≠ 2 ^ k) (h3 : b ≠ 0)
    (hc : Str.ofString c = ⟨#[x]⟩) (hc' : Str.ofString c' = ⟨#[x']⟩) (hc'' : Str.ofString c'' = ⟨#[x'']⟩) : look R i [⟨a, (b : Nat), bt, c, ct⟩, ⟨a', ((2 ^ k : Nat) : Int), bt', c', ct'⟩, ⟨a'', ((2 ^ j : Nat) : Int), bt'', c'', ct''⟩] = ⟨#[c3 R j k x x' x'']⟩ := by
  simp only [look, hit2 R i b j k hi hb h1 h2 h3, hit1 R i (2 ^ k) k hi rfl, hit1 R i (2 ^ j) j hi rfl, c3]
  by_cases hj : R / 2 ^ j % 2 = 1 <;> by_cases hk : R / 2 ^ k % 2 = 1 <;> simp only [hj, hk, if_true, if_false, decide_true, decide_false, Bool.and_true, Bool.and_false, Bool.false_eq_true]
  · exact hc
  · exact hc''
  · exact hc'
  · rw [if_neg (by omega)]; rfl
theorem look0 (R : Nat) (h : R < 4096) : look R 0 (fmT.headD (0, [])).2 = ⟨#[63]⟩ := by
  have e : R &&& 61440 = 0 := by
    apply Nat.eq_of_testBit_eq; intro i
    rw [Nat.testBit_and, Nat.zero_testBit, show 61440 = 2 ^ 12 * 15 from rfl, Nat.testBit_two_pow_mul]
    by_cases hi : i ≥ 12
    · rw [Nat.testBit_lt_two_pow (Nat.lt_of_lt_of_le h (Nat.pow_le_pow_right (n := 2) (by decide) hi) : R < 2 ^ i)]; rfl
    · simp [hi]
  have e' : Builtin.bitAnd (R : Int) 61440 = 0 := by
    have := ba R 61440; rw [e] at this; exact this
  simp only [fmT, List.headD_cons, look, hit, if_true, e']
  rfl
theorem join_e (l : List Nat) : Txt.join (Str.ofString "") (l.map fun c => ⟨#[c]⟩) = ⟨l.toArray⟩ := by
  have h : ∀ l : List Nat, Str.join (Str.ofString "") (l.map fun c => ⟨#[c]⟩) = ⟨l.toArray⟩ := by
    intro l
    induction l with
    | nil => rfl
    | cons a l ih =>
      cases l with
      | nil => rfl
      | cons b l =>
        show (⟨#[a]⟩ : Str) ++ Str.ofString "" ++ Str.join (Str.ofString "") ((b :: l).map fun c => ⟨#[c]⟩) = _
        rw [ih]
        show (⟨#[a] ++ #[] ++ (b :: l).toArray⟩ : Str) = _
        simp
  exact (StrLaws.glued_eq_join _ _).trans (h l)
theorem fm_join (R : Nat) (h : R < 4096) : looks R 0 fmT = (lisC R).map fun c => (⟨#[c]⟩ : Str) := by
  have e0 := look0 R h
  simp only [fmT, List.headD_cons] at e0
  simp only [fmT, looks, lisC, List.map_cons, List.map_nil, List.cons.injEq, and_true]
  exact ⟨e0, look1 R 1 8 256 _ _ _ _ _ (by decide) rfl rfl, look1 R 2 7 128 _ _ _ _ _ (by decide) rfl rfl, look3 R 3 6 11 2112 _ _ _ _ _ _ _ _ _ _ _ _ _ _ _ (by decide) rfl (by decide) (by decide) (by decide) rfl rfl rfl,
    look1 R 4 5 32 _ _ _ _ _ (by decide) rfl rfl, look1 R 5 4 16 _ _ _ _ _ (by decide) rfl rfl, look3 R 6 3 10 1032 _ _ _ _ _ _ _ _ _ _ _ _ _ _ _ (by decide) rfl (by decide) (by decide) (by decide) rfl rfl rfl,
    look1 R 7 2 4 _ _ _ _ _ (by decide) rfl rfl, look1 R 8 1 2 _ _ _ _ _ (by decide) rfl rfl, look3 R 9 0 9 513 _ _ _ _ _ _ _ _ _ _ _ _ _ _ _ (by decide) rfl (by decide) (by decide) (by decide) rfl rfl rfl⟩
theorem fdN (a b : Nat) : (a : Int).fdiv (b : Int) = ((a / b : Nat) : Int) := by
  rw [Int.fdiv_eq_ediv_of_nonneg _ (Int.natCast_nonneg _)]; rfl
theorem fmN (a b : Nat) : (a : Int).fmod (b : Int) = ((a % b : Nat) : Int) := by
  rw [Int.fmod_eq_emod_of_nonneg _ (Int.natCast_nonneg _)]; rfl
theorem seg_is (x : List Nat) (R j k r w : Nat) (s : String) (xs xS xx a b : Nat) (ha : a = 2 ^ j) (hb : b = 2 ^ k) (hr : r = 2 + j) (hw : w = 1 + j)
    (i1 : Txt.item (Str.ofString s) 0 = ⟨#[45]⟩) (i2 : Txt.item (Str.ofString s) 1 = ⟨#[xx]⟩) (i3 : Txt.item (Str.ofString s) 2 = ⟨#[xS]⟩) (i4 : Txt.item (Str.ofString s) 3 = ⟨#[xs]⟩) :
    seg1 ⟨x.toArray⟩ R a b s = ⟨(x ++ [cR R r 114, cR R w 119, c3 R j k xs xS xx]).toArray⟩ := by
  have er : R / a % 8 / 4 = R / 2 ^ r % 2 := by
    rw [ha, hr, Nat.pow_add, Nat.mul_comm, ← Nat.div_div_eq_div_mul]; omega
  have ew : R / a % 8 / 2 % 2 = R / 2 ^ w % 2 := by
    rw [ha, hw, Nat.pow_add, Nat.mul_comm, ← Nat.div_div_eq_div_mul]; omega
  have el : R / a % 8 % 2 = R / 2 ^ j % 2 := by rw [ha]; omega
  have f1 := fdN R a
  have f2 := fmN (R / a) 8
  have f3 := fdN (R / a % 8) 4
  have f4 := fdN (R / a % 8) 2
  have f5 := fmN (R / a % 8 / 2) 2
  have f6 := fmN (R / a % 8) 2
  have f7 := fdN R b
  have f8 := fmN (R / b) 2
  simp only [Int.cast_ofNat_Int] at f1 f2 f3 f4 f5 f6 f7 f8
  unfold seg1
  rw [f1, f2, f3, f4, f5, f6, f7, f8, er, ew, el, hb]
  have g1 : Txt.item (Str.ofString "-r") ((R / 2 ^ r % 2 : Nat) : Int) = ⟨#[cR R r 114]⟩ := by
    unfold cR
    rcases Nat.mod_two_eq_zero_or_one (R / 2 ^ r) with e | e <;> rw [e] <;> rfl
  have g2 : Txt.item (Str.ofString "-w") ((R / 2 ^ w % 2 : Nat) : Int) = ⟨#[cR R w 119]⟩ := by
    unfold cR
    rcases Nat.mod_two_eq_zero_or_one (R / 2 ^ w) with e | e <;> rw [e] <;> rfl
  have g3 : Txt.item (Str.ofString s) (((R / 2 ^ j % 2 : Nat) : Int) + 2 * ((R / 2 ^ k % 2 : Nat) : Int)) = ⟨#[c3 R j k xs xS xx]⟩ := by
    unfold c3
    rcases Nat.mod_two_eq_zero_or_one (R / 2 ^ j) with e | e <;> rcases Nat.mod_two_eq_zero_or_one (R / 2 ^ k) with e' | e' <;> rw [e, e']
    · exact i1
    · exact i3
    · exact i2
    · exact i4
  rw [g1, g2, g3]
  show (⟨x.toArray ++ #[_] ++ #[_] ++ #[_]⟩ : Str) = _
  simp
theorem lis_is (R : Nat) : lisF R 3 = ⟨(lisC R).toArray⟩ := by
  have h1 := seg_is [63] R 6 11 8 7 "-xSs" 115 83 120 64 2048 rfl rfl rfl rfl rfl rfl rfl rfl
  have h2 := seg_is ([63] ++ [cR R 8 114, cR R 7 119, c3 R 6 11 115 83 120]) R 3 10 5 4 "-xSs" 115 83 120 8 1024 rfl rfl rfl rfl rfl rfl rfl rfl
  have h3 := seg_is (([63] ++ [cR R 8 114, cR R 7 119, c3 R 6 11 115 83 120]) ++ [cR R 5 114, cR R 4 119, c3 R 3 10 115 83 120]) R 0 9 2 1 "-xTt" 116 84 120 1 512 rfl rfl rfl rfl rfl rfl rfl rfl
  show seg1 (seg1 (seg1 (Str.ofString "?") R 64 2048 "-xSs") R 8 1024 "-xSs") R 1 512 "-xTt" = _
  rw [show Str.ofString "?" = ⟨[63].toArray⟩ from rfl]
  refine (congrArg (fun z => seg1 (seg1 z R 8 1024 "-xSs") R 1 512 "-xTt") h1).trans ?_
  refine (congrArg (fun z => seg1 z R 1 512 "-xTt") h2).trans ?_
  exact h3
section
variable {prog : Program} {w : World} {A : Around} {E : Value → Shared → Prop} {env : Env} {g : Heap} {L : Addr} {m : Str → Option Value}
theorem Src.str {s₁ : Shared} {x : Str} {t : Tok} (hh : A.handled = none) : Src prog w A (.str x t) s₁ x.cps.size (SignAt x) := by
  intro Q E h
  refine wpAny_pyIter_str fun o St hW hst => h o [s₁.heap.objs.size] St (fun b hb => by rw [List.mem_singleton.mp hb]; exact Nat.le_refl _) (hW A hh) hst
noncomputable def AsgAt (prog : Program) (w : World) (A : Around) (env : Env) (g : Heap) (L : Addr) (m : Str → Option Value) (elt : Expr) (x y : Str) (ifs : List Expr) (scope : Scope) (cl : List (Str × Addr)) (p : Value → Bool) (Fv : Value → Value → Prop) (Q : Flow → Shared → Prop) (xv : Value) (s₁ : Shared) : Prop :=
  ∃ (n : Nat) (P : Nat → Value → Prop) (news : List (Addr × Obj)), Src prog w A xv s₁ n P ∧ Fr g L s₁.heap m ∧ News g L s₁.heap news ∧ n ≤ sizeLine ∧
      (∀ C oC m₂ i v s₃ E', P i v → EltCtx g L m news x v C oC m₂ s₃ →
        wpAny (model prog w) A (forIn ifs true fun c r => if r = true then do let ok ← isTrue c (compEnvC scope cl C env) (eval c (compEnvC scope cl C env)); pure (ForInStep.yield ok) else pure (ForInStep.yield r)) (TestEnd p v s₃) E' s₃) ∧
      (∀ C oC m₂ i v s₃ E', P i v → p v = true → EltCtx g L m news x v C oC m₂ s₃ → wpAny (model prog w) A (eval elt (compEnvC scope cl C env)) (EltEnd Fv v s₃) E' s₃) ∧
      (∀ D h' tk k ys (vs : List Value), vs.length = n → (∀ j v, vs[j]? = some v → P j v) → Paired Fv (vs.filter p) ys → Fr g L h' (fun z => if z = y then some (.ref D) else m z) → News g L h' ((D, { cls := .type "list", data := .seq ys.toArray k }) :: news) → (∀ q ∈ news, q.1 ≠ D) → Q .next { s₁ with heap := h', toks := tk })
theorem comp_asgn {s : Shared} {elt iter : Expr} {x y : Str} {px py : Pos} {ifs : List Expr} {scope : Scope} {cl : List (Str × Addr)} {pos spos : Pos} {Q : Flow → Shared → Prop} (p : Value → Bool) (Fv : Value → Value → Prop) (_F₀ : Fr g L s.heap m) (hL : env.locals = L)
    (hsw : swapsWith (.ListComp elt [⟨.Name x px, iter, ifs, 0⟩] scope pos) (some (.Name y py)) spos.line env = pure true)
    (hclos : closureFor scope env = pure cl) (hcell : ∀ y ∈ scope.names, y.2 ≠ .cell) (hkind : scope.kind = .function)
    (hnames : ∀ y ∈ scope.names, y.2 = .local → scope.names.lookup y.1 = some .local) (hx : scope.names.lookup x = some .local)
    (hy : env.kindOf y = some .local) (hp : (env.scope.kind == .class || (env.scope.kind == .module && env.locals != env.globals)) = false)
    (h : wpAny (model prog w) A (eval iter env) (fun xv s₁ => AsgAt prog w A env g L m elt x y ifs scope cl p Fv Q xv s₁) E s)
    (hs : ∀ x, foldedSetIterable iter env x = pure x := by intro _; rfl) :
    wpAny (model prog w) A (exec (.Assign [.Name y py] (.ListComp elt [⟨.Name x px, iter, ifs, 0⟩] scope pos) spos) env) Q E s := by
  subst hL
  refine wpAny_Assign_ListComp_free p Fv hsw hclos hcell hkind hnames hx hy hp (wpAny_mono h (fun xv s₁ h₁ => ?_) fun _ _ e => e) hs
  obtain ⟨n, P, news, hsrc, F, N, hsz, ht, he, hf⟩ := h₁
  refine hsrc _ _ fun o fp St hfp W hst => ?_
  have hsz1 : (s₁.heap.push o).objs.size = s₁.heap.objs.size + 1 := Heap.size_push _ _
  have up : ∀ b o', s₁.heap.get? b = some o' → (s₁.heap.push o).get? b = some o' := fun b o' e => Heap.get?_push_of_some _ e
  have ctx : ∀ C v s₃ m₃, (s₁.heap.push o).objs.size ≤ C → s₃.heap.Ns C m₃ → m₃ x = some v → (∀ b o', b ∉ [s₁.heap.objs.size] → (s₁.heap.push o).get? b = some o' → s₃.heap.get? b = some o') → ∃ oC, EltCtx g env.locals m news x v C oC m₃ s₃ := by
    intro C v s₃ m₃ hC hn hv hk
    have hk' : ∀ b o', s₁.heap.get? b = some o' → s₃.heap.get? b = some o' := fun b o' e => hk b o' (by simp; exact Nat.ne_of_lt (Heap.lt_size e)) (up b o' e)
    obtain ⟨oC, hoC, hns⟩ := LCg.ns_obj hn
    refine ⟨oC, hns, hv, ?_, ?_⟩
    · obtain ⟨oL, es, ep, hL, r⟩ := F.ns
      exact ⟨⟨oL, es, ep, hk' _ _ hL, r⟩, fun b o e => hk' _ _ (F.keep b o e), F.above⟩
    · intro q hq
      rcases List.mem_cons.mp hq with rfl | hq
      · refine ⟨hoC, ?_, ?_⟩
        · exact Nat.ne_of_gt (Nat.lt_of_lt_of_le F.ns.lt (Nat.le_trans (by rw [hsz1]; exact Nat.le_succ _) hC))
        · show g.get? C = none
          cases e : g.get? C with
          | none => rfl
          | some o' => exact absurd (Nat.lt_of_lt_of_le (Heap.lt_size (F.keep _ _ e)) (Nat.le_trans (by rw [hsz1]; exact Nat.le_succ _) hC)) (Nat.lt_irrefl _)
      · exact ⟨hk' _ _ (N q hq).1, (N q hq).2⟩
  refine ⟨_, fp, [s₁.heap.objs.size], n, P, St, m, rfl, W, hsz, hst, fun b hb => by show b < (s₁.heap.push o).objs.size; rw [hsz1]; exact Nat.lt_succ_of_le (hfp b hb), ?_, (F.push _).ns, ⟨?_, ?_⟩, ?_⟩
  · intro hI
    exact absurd F.ns.lt ((List.mem_singleton.mp hI) ▸ Nat.lt_irrefl _)
  · intro C i v s₃ m₃ E' hC hP hn hv hk _
    obtain ⟨oC, hc⟩ := ctx C v s₃ m₃ hC hn hv hk
    exact ht C oC m₃ i v s₃ E' hP hc
  · intro C i v s₃ m₃ E' hC hP hp hn hv hk _
    obtain ⟨oC, hc⟩ := ctx C v s₃ m₃ hC hn hv hk
    exact he C oC m₃ i v s₃ E' hP hp hc
  · intro D h' tk ys vs hD _ hpl hlen hP hF hn hk
    have hk' : ∀ b o', b ≠ env.locals → s₁.heap.get? b = some o' → h'.get? b = some o' := fun b o' hb e => hk b o' hb (by simp; exact Nat.ne_of_lt (Heap.lt_size e)) (up b o' e)
    have hDs : s₁.heap.get? D = none := by
      cases e : s₁.heap.get? D with
      | none => rfl
      | some o' => have := up _ _ e; simp only at hD; rw [hD] at this; cases this
    have hLg : ∀ b o, g.get? b = some o → b ≠ env.locals := fun b o e q => absurd (Heap.lt_size e) (Nat.not_lt.mpr (q ▸ F.above))
    obtain ⟨k, hDo⟩ := hpl
    obtain ⟨oL, es, ep, hL, r⟩ := F.ns
    refine hf D h' tk k ys.toList vs hlen hP hF ⟨hn, fun b o e => hk' _ _ (hLg b o e) (F.keep b o e), F.above⟩ (fun q hq => ?_) fun q hq e => by rw [← e, (N q hq).1] at hDs; cases hDs
    rcases List.mem_cons.mp hq with rfl | hq
    · refine ⟨by simpa using hDo, fun e => ?_, ?_⟩
      · simp only at e; rw [e, hL] at hDs; cases hDs
      · show g.get? D = none
        cases e : g.get? D with
        | none => rfl
        | some o' => rw [F.keep _ _ e] at hDs; cases hDs
    · exact ⟨hk' _ _ (N q hq).2.1 (N q hq).1, (N q hq).2⟩
end
noncomputable def tst (s : Str) (v : Value) : Bool := match v with | .str x _ => x != s | _ => false
noncomputable def Same (v y : Value) : Prop := y = v
noncomputable def one (c : Nat) : Str := ⟨#[c]⟩
noncomputable def rightsL (l : List Nat) : Nat := (l.filter (· != 45)).length + ((l.filter (· != 45)).filter fun c => c == 115 || c == 116).length
theorem slice9 (a0 a1 a2 a3 a4 a5 a6 a7 a8 a9 : Nat) : Txt.slice ⟨#[a0, a1, a2, a3, a4, a5, a6, a7, a8, a9]⟩ (some 1) none = ⟨#[a1, a2, a3, a4, a5, a6, a7, a8, a9]⟩ := by
  have h : Builtin.Str.strSliceIndices (some 1) none 1 10 = [1, 2, 3, 4, 5, 6, 7, 8, 9] := by decide +kernel
  show (if ((1 : Int) == 1 && (Builtin.Str.strSliceIndices (some 1) none 1 10).length == 10) = true then _ else _) = _
  rw [show (⟨#[a0, a1, a2, a3, a4, a5, a6, a7, a8, a9]⟩ : Str).length = 10 from rfl, h]; rfl
theorem signs_are {l : List Nat} : ∀ {vs : List Value}, vs.length = l.length → (∀ j v, vs[j]? = some v → SignAt ⟨l.toArray⟩ j v) → StrsAre vs (l.map one) := by
  induction l with
  | nil => intro vs h _; rw [List.length_eq_zero_iff.mp h]; exact .nil
  | cons a l ih =>
    intro vs h hP
    cases vs with
    | nil => cases h
    | cons v vs =>
      obtain ⟨c, u, hc, rfl⟩ := hP 0 v rfl
      simp at hc
      subst hc
      refine .cons _ _ (ih (by simpa using h) fun j v hv => ?_)
      obtain ⟨c, u, hc, e⟩ := hP (j + 1) v (by simpa using hv)
      exact ⟨c, u, by simpa using hc, e⟩
theorem same_eq : ∀ {vs ys : List Value}, Paired Same vs ys → ys = vs
  | _, _, .nil => rfl
  | _, _, .cons h r => by rw [same_eq r, show _ = _ from h]
theorem strs_filter (p : Value → Bool) (q : Nat → Bool) (hpq : ∀ c u, p (.str (one c) u) = q c) : ∀ {l : List Nat} {vs : List Value}, StrsAre vs (l.map one) → StrsAre (vs.filter p) ((l.filter q).map one)
  | [], _, h => by cases h; exact .nil
  | c :: l, vs, h => by
    cases h with
    | cons _ u r =>
      rw [List.filter_cons, List.filter_cons, hpq]
      split
      · exact .cons _ _ (strs_filter p q hpq r)
      · exact strs_filter p q hpq r
theorem tst_one (c : Nat) (u : Tok) : tst (Str.ofString "-") (.str (one c) u) = (c != 45) := by
  show (one c != Str.ofString "-") = _
  have e : Str.ofString "-" = one 45 := rfl
  rw [e]
  by_cases h : c = 45
  · subst h; simp
  · have : one c ≠ one 45 := fun q => h (by simpa [one] using q)
    rw [(bne_iff_ne).mpr this, (bne_iff_ne).mpr h]
noncomputable def tst2 (v : Value) : Bool := match v with | .str x _ => !(Builtin.Str.occurrences (Str.ofString "st") x 0 (Str.ofString "st").length 1).isEmpty | _ => false
theorem tst2_one (c : Nat) (u : Tok) : tst2 (.str (one c) u) = (c == 115 || c == 116) := by
  refine (StrLaws.found_one (Str.ofString "st") c).trans ?_
  rw [show (Str.ofString "st").cps.toList = [115, 116] from rfl]
  simp only [List.mem_cons, List.not_mem_nil, or_false]
  by_cases h1 : c = 115 <;> by_cases h2 : c = 116 <;> simp [h1, h2]
theorem strs_at : ∀ {l : List Nat} {vs : List Value}, StrsAre vs (l.map one) → ∀ (i : Nat) v, vs[i]? = some v → ∃ c u, v = .str (one c) u
  | [], _, h, i, v, e => by cases h; cases e
  | c :: l, vs, h, i, v, e => by
    cases h with
    | cons _ u r =>
      cases i with
      | zero => exact ⟨c, u, (Option.some.inj e).symm⟩
      | succ i => exact strs_at r i v e
theorem list_of_at {ys vs : List Value} (hl : vs.length = ys.length) (h : ∀ (j : Nat) v, vs[j]? = some v → ys.toArray[j]? = some v) : vs = ys := by
  apply List.ext_getElem? ; intro j
  by_cases hj : j < vs.length
  · have := h j vs[j] (by simp [hj])
    rw [List.getElem?_toArray] at this
    rw [this]; simp [hj]
  · rw [List.getElem?_eq_none (by omega), List.getElem?_eq_none (by omega)]
theorem rights_ok (w : World) (R : Nat) (t : Tok) : Pure w 1 209 [.str ⟨(lisC R).toArray⟩ t] [] (fun _ => True) (fun t => .int (rightsL (lisC R).tail) t) := by
  generalize hl : lisC R = l0
  obtain ⟨a0, a1, a2, a3, a4, a5, a6, a7, a8, a9, rfl⟩ : ∃ a0 a1 a2 a3 a4 a5 a6 a7 a8 a9, l0 = [a0, a1, a2, a3, a4, a5, a6, a7, a8, a9] := ⟨_, _, _, _, _, _, _, _, _, _, hl.symm⟩
  clear hl
  ((((w_top off; intro p loose mean mg mb dp un gd cn cs a ccd cl outer A₀ base h₀ L m s Q E B F X T hk hpre hdp hun hret; ((have hfill : (fun (_ : OpenLaw) (_ : Params → Frag) => True) PySem.Challenge.rw_om0013_01 KK := (by k_fill; trivial); clear hfill)))); ((refine wpAny_call ?_; k_dflt (refine' enter0 ?k1 ?k2 ?k3 ?k5 rfl rfl (by assumption) ?k6 ?k7 ?k8 ?k9 ?kB ?_ ?c2 ?c3 ?c4 ?c5; (case k1 => k_asm); (case k2 => k_asm); (case k3 => k_asm); (case k5 => k_asm); (case k6 => k_is); (case k7 => k_is); (case k8 => ktr_room); (case k9 => (first | exact BindsTo.of_eq rfl | exact binds_K (by k_in) rfl (by k_is) rfl rfl rfl)); (case c5 => decide); (case kB => exact locs rfl); (case c2 => exact rfl); (case c3 => exact rfl); (case c4 => exact rfl); k_whole); intro g9 L9 h9 kp9 F9 N9 B9 X9 T9; (((try dsimp only); (try k_fold)))))))
  (repeat' (first | ((k_unfold; (try dsimp only))) | ((fail_if_success (with_reducible show wpAny _ _ (exec (Stmt.While _ _ _ _) _) _ _ _)); (((fail_if_success (with_reducible show wpAny _ _ (pyIter _) _ _ _)); (fail_if_success (with_reducible show wpAny _ _ (exec (Stmt.For _ _ _ _ _) _) _ _ _)); (fail_if_success (with_reducible show wpAny _ _ (eval (Expr.ListComp _ _ _ _) _) _ _ _)); (fail_if_success (with_reducible show wpAny _ _ (exec (Stmt.Assign _ (Expr.ListComp _ _ _ _) _) _) _ _ _)); walk1; (try dsimp only)))) | dsimp only))
  refine comp_asgn (tst (Str.ofString "-")) Same (by assumption) rfl (by with_unfolding_all rfl) (by with_unfolding_all rfl) (by decide) (by rfl) (by decide) (by rfl) rfl rfl ?_
  (repeat' (first | ((k_unfold; (try dsimp only))) | ((fail_if_success (with_reducible show wpAny _ _ (exec (Stmt.While _ _ _ _) _) _ _ _)); (((fail_if_success (with_reducible show wpAny _ _ (pyIter _) _ _ _)); (fail_if_success (with_reducible show wpAny _ _ (exec (Stmt.For _ _ _ _ _) _) _ _ _)); (fail_if_success (with_reducible show wpAny _ _ (eval (Expr.ListComp _ _ _ _) _) _ _ _)); (fail_if_success (with_reducible show wpAny _ _ (exec (Stmt.Assign _ (Expr.ListComp _ _ _ _) _) _) _ _ _)); walk1; (try dsimp only)))) | dsimp only))
  rw [slice9]
  refine ⟨_, _, _, Src.str (by rfl), by assumption, by assumption, Nat.le_of_ble_eq_true rfl, ?_, ?_, ?_⟩
  · rintro C oC m₂ i v s₃ E' ⟨c, u, hc, rfl⟩ ⟨c1, c2, c3, c4⟩
    (repeat' (first | ((k_unfold; (try dsimp only))) | ((fail_if_success (with_reducible show wpAny _ _ (exec (Stmt.While _ _ _ _) _) _ _ _)); (((fail_if_success (with_reducible show wpAny _ _ (pyIter _) _ _ _)); (fail_if_success (with_reducible show wpAny _ _ (exec (Stmt.For _ _ _ _ _) _) _ _ _)); (fail_if_success (with_reducible show wpAny _ _ (eval (Expr.ListComp _ _ _ _) _) _ _ _)); (fail_if_success (with_reducible show wpAny _ _ (exec (Stmt.Assign _ (Expr.ListComp _ _ _ _) _) _) _ _ _)); walk1; (try dsimp only)))) | dsimp only))
    exact ⟨rfl, _, _, rfl, fun _ _ e => e⟩
  · rintro C oC m₂ i v s₃ E' ⟨c, u, hc, rfl⟩ - ⟨c1, c2, c3, c4⟩
    (repeat' (first | ((k_unfold; (try dsimp only))) | ((fail_if_success (with_reducible show wpAny _ _ (exec (Stmt.While _ _ _ _) _) _ _ _)); (((fail_if_success (with_reducible show wpAny _ _ (pyIter _) _ _ _)); (fail_if_success (with_reducible show wpAny _ _ (exec (Stmt.For _ _ _ _ _) _) _ _ _)); (fail_if_success (with_reducible show wpAny _ _ (eval (Expr.ListComp _ _ _ _) _) _ _ _)); (fail_if_success (with_reducible show wpAny _ _ (exec (Stmt.Assign _ (Expr.ListComp _ _ _ _) _) _) _ _ _)); walk1; (try dsimp only)))) | dsimp only))
    exact ⟨rfl, _, _, rfl, fun _ _ e => e⟩
  · intro D h' tk k ys vs hlen hP hF F2 N2 hD
    have hS := signs_are (l := [a1, a2, a3, a4, a5, a6, a7, a8, a9]) hlen hP
    have hS2 := strs_filter (tst (Str.ofString "-")) (fun c => c != 45) tst_one hS
    rw [← same_eq hF] at hS2
    generalize hh : ([a1, a2, a3, a4, a5, a6, a7, a8, a9].filter fun c => c != 45) = hl at hS2
    have hyl : ys.length ≤ 10 := by
      rw [strs_len hS2, List.length_map, ← hh]
      exact Nat.le_trans (List.length_filter_le _ _) (Nat.le_of_ble_eq_true rfl)
    clear hF hS hP hlen vs
    (repeat' (first | ((k_unfold; (try dsimp only))) | ((fail_if_success (with_reducible show wpAny _ _ (exec (Stmt.While _ _ _ _) _) _ _ _)); (((fail_if_success (with_reducible show wpAny _ _ (pyIter _) _ _ _)); (fail_if_success (with_reducible show wpAny _ _ (exec (Stmt.For _ _ _ _ _) _) _ _ _)); (fail_if_success (with_reducible show wpAny _ _ (eval (Expr.ListComp _ _ _ _) _) _ _ _)); (fail_if_success (with_reducible show wpAny _ _ (exec (Stmt.Assign _ (Expr.ListComp _ _ _ _) _) _) _ _ _)); walk1; (try dsimp only)))) | dsimp only))
    refine KM.len_K N2 (.head _) (n := ys.length) (by simp) (by omega) ?_
    (repeat' (first | ((k_unfold; (try dsimp only))) | ((fail_if_success (with_reducible show wpAny _ _ (exec (Stmt.While _ _ _ _) _) _ _ _)); (((fail_if_success (with_reducible show wpAny _ _ (pyIter _) _ _ _)); (fail_if_success (with_reducible show wpAny _ _ (exec (Stmt.For _ _ _ _ _) _) _ _ _)); (fail_if_success (with_reducible show wpAny _ _ (eval (Expr.ListComp _ _ _ _) _) _ _ _)); (fail_if_success (with_reducible show wpAny _ _ (exec (Stmt.Assign _ (Expr.ListComp _ _ _ _) _) _) _ _ _)); walk1; (try dsimp only)))) | dsimp only))
    refine comp_gen tst2 Same (by assumption) (by with_unfolding_all rfl) (by decide) (by rfl) (by decide) (by rfl) ?_
    (repeat' (first | ((k_unfold; (try dsimp only))) | ((fail_if_success (with_reducible show wpAny _ _ (exec (Stmt.While _ _ _ _) _) _ _ _)); (((fail_if_success (with_reducible show wpAny _ _ (pyIter _) _ _ _)); (fail_if_success (with_reducible show wpAny _ _ (exec (Stmt.For _ _ _ _ _) _) _ _ _)); (fail_if_success (with_reducible show wpAny _ _ (eval (Expr.ListComp _ _ _ _) _) _ _ _)); (fail_if_success (with_reducible show wpAny _ _ (exec (Stmt.Assign _ (Expr.ListComp _ _ _ _) _) _) _ _ _)); walk1; (try dsimp only)))) | dsimp only))
    refine ⟨_, _, _, Src.list (by rfl) (News.isList (by assumption) (by k_mem)), by assumption, by assumption, ?_, ?_, ?_, ?_⟩
    · rw [sizeLine_eq, List.size_toArray]; omega
    · rintro C oC m₂ i v s₃ E' hv ⟨c1, c2, c3, c4⟩
      obtain ⟨c, u, rfl⟩ := strs_at hS2 i v (by simpa using hv)
      (repeat' (first | ((k_unfold; (try dsimp only))) | ((fail_if_success (with_reducible show wpAny _ _ (exec (Stmt.While _ _ _ _) _) _ _ _)); (((fail_if_success (with_reducible show wpAny _ _ (pyIter _) _ _ _)); (fail_if_success (with_reducible show wpAny _ _ (exec (Stmt.For _ _ _ _ _) _) _ _ _)); (fail_if_success (with_reducible show wpAny _ _ (eval (Expr.ListComp _ _ _ _) _) _ _ _)); (fail_if_success (with_reducible show wpAny _ _ (exec (Stmt.Assign _ (Expr.ListComp _ _ _ _) _) _) _ _ _)); walk1; (try dsimp only)))) | dsimp only))
      exact ⟨rfl, _, _, rfl, fun _ _ e => e⟩
    · rintro C oC m₂ i v s₃ E' hv - ⟨c1, c2, c3, c4⟩
      obtain ⟨c, u, rfl⟩ := strs_at hS2 i v (by simpa using hv)
      (repeat' (first | ((k_unfold; (try dsimp only))) | ((fail_if_success (with_reducible show wpAny _ _ (exec (Stmt.While _ _ _ _) _) _ _ _)); (((fail_if_success (with_reducible show wpAny _ _ (pyIter _) _ _ _)); (fail_if_success (with_reducible show wpAny _ _ (exec (Stmt.For _ _ _ _ _) _) _ _ _)); (fail_if_success (with_reducible show wpAny _ _ (eval (Expr.ListComp _ _ _ _) _) _ _ _)); (fail_if_success (with_reducible show wpAny _ _ (exec (Stmt.Assign _ (Expr.ListComp _ _ _ _) _) _) _ _ _)); walk1; (try dsimp only)))) | dsimp only))
      exact ⟨rfl, _, _, rfl, fun _ _ e => e⟩
    · intro D2 h2 tk2 k2 ys2 vs2 hlen2 hP2 hF2 F4 N4 hD2
      have e1 : vs2 = ys := list_of_at (by simpa using hlen2) hP2
      subst e1
      have hS3 := strs_filter tst2 (fun c => c == 115 || c == 116) tst2_one hS2
      rw [← same_eq hF2] at hS3
      have hyl2 : ys2.length ≤ 10 := by
        rw [same_eq hF2]
        exact Nat.le_trans (List.length_filter_le _ _) hyl
      have hlen : (vs2.length : Int) + (ys2.length : Int) = ((rightsL [a1, a2, a3, a4, a5, a6, a7, a8, a9] : Nat) : Int) := by
        rw [strs_len hS3, strs_len hS2, List.length_map, List.length_map, ← hh]; rfl
      clear hF2
      (repeat' (first | ((k_unfold; (try dsimp only))) | ((fail_if_success (with_reducible show wpAny _ _ (exec (Stmt.While _ _ _ _) _) _ _ _)); (((fail_if_success (with_reducible show wpAny _ _ (pyIter _) _ _ _)); (fail_if_success (with_reducible show wpAny _ _ (exec (Stmt.For _ _ _ _ _) _) _ _ _)); (fail_if_success (with_reducible show wpAny _ _ (eval (Expr.ListComp _ _ _ _) _) _ _ _)); (fail_if_success (with_reducible show wpAny _ _ (exec (Stmt.Assign _ (Expr.ListComp _ _ _ _) _) _) _ _ _)); walk1; (try dsimp only)))) | dsimp only))
      refine KM.len_K N4 (.head _) (n := ys2.length) (by simp) (by omega) ?_
      (repeat' (first | ((k_unfold; (try dsimp only))) | ((fail_if_success (with_reducible show wpAny _ _ (exec (Stmt.While _ _ _ _) _) _ _ _)); (((fail_if_success (with_reducible show wpAny _ _ (pyIter _) _ _ _)); (fail_if_success (with_reducible show wpAny _ _ (exec (Stmt.For _ _ _ _ _) _) _ _ _)); (fail_if_success (with_reducible show wpAny _ _ (eval (Expr.ListComp _ _ _ _) _) _ _ _)); (fail_if_success (with_reducible show wpAny _ _ (exec (Stmt.Assign _ (Expr.ListComp _ _ _ _) _) _) _ _ _)); walk1; (try dsimp only)))) | dsimp only))
      rename ∀ (t : Tok) (h' : Heap) (tk' : Nat), Kp _ _ → _ => hr9
      exact end_int' hr9 (by assumption) F4 rfl hlen
/-- a call that gives a new list -/
noncomputable def PureL (w : World) (k : Nat) (f : Addr) (vs : List Value) (kw : List (Str × Value)) (pre : Heap → Prop) (Res : List Value → Prop) : Prop :=
  ∀ (p : Program) (loose : List Str) (mean : ExcName → Option Value) (mg mb : Str → Option Value) (dp un : Nat) (gd : Option (List Code)) (cn : Str) (cs : Scope) (a : Addr) (ccd : Value) (cl : List (Str × Addr)) (outer : List Env) (A₀ : Around) (base h₀ : Heap) (L : Addr) (m : Str → Option Value) (s : Shared) (Q E : Value → Shared → Prop),
    Below A₀ base outer h₀ → Fr h₀ L s.heap m → (KK w.params).In h₀ → Top p loose mean mg mb h₀ → cs.kind = .function → pre s.heap → dp + k < recursionLimit → un + 8 * k < cLine →
    (∀ (D : Addr) (ys : List Value) (c : Nat) (h' : Heap) (tk' : Nat), Kp s.heap h' → s.heap.get? D = none → h'.get? D = some (W.listOf ys.toArray c) → Res ys → Q (.ref D) { s with heap := h', toks := tk' }) →
    wpAny (model Pg w) (ktrTop dp un gd cn cs L a ccd cl outer) (call (.ref f) vs kw) Q E s
theorem PureL.use {w : World} {k : Nat} {f : Addr} {vs : List Value} {kw : List (Str × Value)} {pre : Heap → Prop} {Res : List Value → Prop} (P : PureL w k f vs kw pre Res)
    {p : Program} {loose : List Str} {mean : ExcName → Option Value} {mg mb : Str → Option Value} {dp un : Nat} {gd : Option (List Code)} {cn : Str} {cs : Scope} {a : Addr} {ccd : Value} {cl : List (Str × Addr)} {outer : List Env} {A₀ : Around} {base h₀ : Heap} {L : Addr} {m : Str → Option Value} {news : List (Addr × Obj)} {s : Shared} {Q E : Value → Shared → Prop}
    (B : Below A₀ base outer h₀) (F : Fr h₀ L s.heap m) (X : (KK w.params).In h₀) (N : News h₀ L s.heap news) (T : Top p loose mean mg mb h₀) (hk : cs.kind = .function) (hp : pre s.heap) (hdp : dp + k < recursionLimit) (hun : un + 8 * k < cLine)
    (h : ∀ (D : Addr) (ys : List Value) (c : Nat) (h' : Heap) (tk' : Nat), Res ys → (∀ q ∈ news, q.1 ≠ D) → Fr h₀ L h' m → News h₀ L h' ((D, W.listOf ys.toArray c) :: news) → Q (.ref D) { s with heap := h', toks := tk' }) :
    wpAny (model Pg w) (ktrTop dp un gd cn cs L a ccd cl outer) (call (.ref f) vs kw) Q E s := by
  refine P p loose mean mg mb dp un gd cn cs a ccd cl outer A₀ base h₀ L m s Q E B F X T hk hp hdp hun fun D ys c h' tk' kp hD hD' hR => ?_
  obtain ⟨oL, es, ep, hL, r⟩ := F.ns
  refine h D ys c h' tk' hR (fun q hq e => by rw [← e, (N q hq).1] at hD; cases hD) ⟨⟨oL, es, ep, kp _ _ hL, r⟩, fun b o e => kp _ _ (F.keep b o e), F.above⟩ fun p hp => ?_
  rcases List.mem_cons.mp hp with rfl | hp
  · refine ⟨hD', fun e => ?_, ?_⟩
    · simp only at e; rw [e, hL] at hD; cases hD
    · show h₀.get? D = none
      cases e : h₀.get? D with
      | none => rfl
      | some o => rw [F.keep _ _ e] at hD; cases hD
  · exact ⟨kp _ _ (N p hp).1, (N p hp).2⟩
theorem end_list {s : Shared} {g h' : Heap} {L : Addr} {m : Str → Option Value} {Q : Value → Shared → Prop} {tk : Nat} {Res : List Value → Prop} {news : List (Addr × Obj)} {D : Addr} {ys : List Value} {c : Nat}
    (hret : ∀ (D : Addr) (ys : List Value) (c : Nat) (h' : Heap) (tk' : Nat), Kp s.heap h' → s.heap.get? D = none → h'.get? D = some (W.listOf ys.toArray c) → Res ys → Q (.ref D) { s with heap := h', toks := tk' })
    (kp : Kp s.heap g) (F : Fr g L h' m) (N : News g L h' news) (hm : (D, W.listOf ys.toArray c) ∈ news) (hR : Res ys) : Q (.ref D) { s with heap := h', toks := tk } := by
  refine hret D ys c h' tk (fun b o q => F.keep b o (kp b o q)) ?_ (N _ hm).1 hR
  cases e : s.heap.get? D with
  | none => rfl
  | some o => have := (N _ hm).2.2; rw [kp _ _ e] at this; cases this
section
noncomputable def dmg (msg d : Int) : List Int := [2 ^ (d.fmod 48).toNat + 2 ^ ((d.fmod 48 + 1 + (d.fdiv 48).fmod 47).fmod 48).toNat, (1 + (d.fdiv 2256).fmod 4095) * 2 ^ (d.fmod 37).toNat, msg * 2 + 1 - (ones msg.toNat : Int) % 2, (blindF 36 0 6159 (1 + d.fmod (2 ^ 36 - 1)).toNat : Nat)]
theorem damages_ok (w : World) (msg d : Int) (t t' : Tok) (h0 : 0 ≤ msg) (h1 : msg < 2 ^ 36) : PureL w 3 183 [.int msg t, .int d t'] [] (fun _ => True) (fun ys => IntsAre ys (dmg msg d)) := by
  have hb0 : 0 ≤ 1 + d.fmod (2 ^ 36 - 1) := by
    have := Int.fmod_nonneg_of_pos d (b := 2 ^ 36 - 1) (by decide); omega
  have hb1 : 1 + d.fmod (2 ^ 36 - 1) < 2 ^ 36 := by
    have := Int.fmod_lt_of_pos d (b := 2 ^ 36 - 1) (by decide); omega
  ((((w_top off; intro p loose mean mg mb dp un gd cn cs a ccd cl outer A₀ base h₀ L m s Q E B F X T hk hpre hdp hun hret; ((have hfill : (fun (_ : OpenLaw) (_ : Params → Frag) => True) PySem.Challenge.rw_om0013_01 KK := (by k_fill; trivial); clear hfill)))); ((refine wpAny_call ?_; k_dflt (refine' enter0 ?k1 ?k2 ?k3 ?k5 rfl rfl (by assumption) ?k6 ?k7 ?k8 ?k9 ?kB ?_ ?c2 ?c3 ?c4 ?c5; (case k1 => k_asm); (case k2 => k_asm); (case k3 => k_asm); (case k5 => k_asm); (case k6 => k_is); (case k7 => k_is); (case k8 => ktr_room); (case k9 => (first | exact BindsTo.of_eq rfl | exact binds_K (by k_in) rfl (by k_is) rfl rfl rfl)); (case c5 => decide); (case kB => exact locs rfl); (case c2 => exact rfl); (case c3 => exact rfl); (case c4 => exact rfl); k_whole); intro g9 L9 h9 kp9 F9 N9 B9 X9 T9; (((try dsimp only); (try k_fold)))))))
  (repeat' (first | ((k_unfold; (try dsimp only))) | ((first | ((with_reducible show wpAny _ _ (call (Value.ref 176) _ _) _ _ _); (k_dflt (refine' Pure.use (odd_ok _ _ _ (by assumption) (by assumption)) ?k1 ?k2 ?k3 ?k4 ?k5 ?kK ?kp ?kd ?ku ?_; (case k1 => k_asm); (case k2 => k_asm); (case k3 => k_asm); (case k4 => k_asm); (case k5 => k_asm); (case kK => first | exact rfl | assumption); (case kp => first | trivial | assumption | exact TabAt.keep (by assumption) (Fr.keep (by assumption))); (case kd => ktr_room); (case ku => ktr_units))); ((intro t8 h8 tk8 F8 N8; (((try dsimp only); (try k_fold)))))) | ((with_reducible show wpAny _ _ (call (Value.ref 171) _ _) _ _ _); (k_dflt (refine' Pure.use (blind_ok _ _ _ (by assumption) (by assumption)) ?k1 ?k2 ?k3 ?k4 ?k5 ?kK ?kp ?kd ?ku ?_; (case k1 => k_asm); (case k2 => k_asm); (case k3 => k_asm); (case k4 => k_asm); (case k5 => k_asm); (case kK => first | exact rfl | assumption); (case kp => first | trivial | assumption | exact TabAt.keep (by assumption) (Fr.keep (by assumption))); (case kd => ktr_room); (case ku => ktr_units))); ((intro t8 h8 tk8 F8 N8; (((try dsimp only); (try k_fold)))))))) | ((fail_if_success (with_reducible show wpAny _ _ (exec (Stmt.While _ _ _ _) _) _ _ _)); (((fail_if_success (with_reducible show wpAny _ _ (pyIter _) _ _ _)); (fail_if_success (with_reducible show wpAny _ _ (exec (Stmt.For _ _ _ _ _) _) _ _ _)); (fail_if_success (with_reducible show wpAny _ _ (eval (Expr.ListComp _ _ _ _) _) _ _ _)); (fail_if_success (with_reducible show wpAny _ _ (exec (Stmt.Assign _ (Expr.ListComp _ _ _ _) _) _) _ _ _)); walk1; (try dsimp only)))) | dsimp only))
  rename ∀ (D : Addr) (ys : List Value) (c : Nat) (h' : Heap) (tk' : Nat), Kp _ _ → _ => hr9
  rename Fr _ _ _ _ => F3
  rename News _ _ _ _ => N3
  exact end_list hr9 (by assumption) F3 N3 (.head _) (.cons _ _ (.cons _ _ (.cons _ _ (.cons _ _ .nil))))
end
noncomputable def lisS (R : Nat) : Str := ⟨(lisC R).toArray⟩
theorem filemode_ok (w : World) (R : Nat) (t : Tok) (h : R < 4096) : Pure w 2 75 [.int (R : Nat) t] [] (fun _ => True) (fun t => .str (lisS R) t) := by
  have := filemode_ok' w (R : Nat) t (by omega) (by omega)
  rw [fm_join R h, join_e] at this
  exact this
theorem listing_ok2 (w : World) (R : Nat) (t : Tok) (h : R < 4096) : Pure w 1 147 [.int (R : Nat) t] [] (fun _ => True) (fun t => .str (lisS R) t) := by
  have := listing_ok w (R : Nat) t (by omega) (by omega)
  rw [lis_is] at this
  exact this
theorem run_w (w : World) (fg : Addr) (R : Nat) (h : R < 281474976710656) (t : Tok) : Pure w 2 190 [.ref fg, .bytes (BA (txtN R)) t] [] (fun h => IntTab Pg w h fg figD) (fun t => .int (restB 48 R : Nat) t) := by
  have := run_ok w fg (figN R) (fig_lt R) t
  rw [run_eight R h] at this
  exact this
theorem mlist {prog : Program} {w : World} {A : Around} {E : Value → Shared → Prop} {s : Shared} {env : Env} {h₀ : Heap} {x : Str} {body : List Stmt} {Q : Flow → Shared → Prop} {σ : Type} {l : Addr} {vs : List Value} {ns : List Int} {m₀ : Str → Option Value} (Led : σ → List (Addr × Obj)) (ps : σ → List (Str × Value)) (stored : List Str) (P : List Int → σ → Prop) (c₀ : σ)
    (hh : A.handled = none) (hl : h₀.IsList l vs.toArray) (hi : IntsAre vs ns) (F : Fr h₀ env.locals s.heap m₀) (N : News h₀ env.locals s.heap (Led c₀)) (hk : ∀ p ∈ ps c₀, m₀ p.1 = some p.2) (hp : P [] c₀)
    (turn : ∀ (c : σ) (pre post : List Int) (n : Int) t (u : Str → Option Value) h tk own, ns = pre ++ n :: post → n ∈ ns → OwnOff own ((Led c₀).map (·.1)) → P pre c →
      Fr h₀ env.locals h (fun y => if y = x then some (.int n t) else kstB (fun z => if stored.contains z then u z else m₀ z) (ps c) y) → News h₀ env.locals h (Led c ++ own) →
      wpAny (model prog w) A (execs body env) (TPost h₀ env.locals Led ps x stored m₀ P (pre ++ [n]) own ((Led c₀).map (·.1)) { s with heap := h, toks := tk } Q) E { s with heap := h, toks := tk })
    (done : ∀ (c : σ) (u : Str → Option Value) h tk, P ns c → Fr h₀ env.locals h (fun y => if y = x then u y else kstB (fun z => if stored.contains z then u z else m₀ z) (ps c) y) → News h₀ env.locals h (Led c) → Q .next { s with heap := h, toks := tk }) :
    wpAny (model prog w) A (pyIter (.ref l)) (fun it s₂ => LoopAtV prog w A h₀ env x body Q E it s₂) E s :=
  kst_list Led ps (fun _ => True) stored P c₀ hh hl hi F N trivial hk hp (fun c pre post n t u h tk own e1 e2 e3 _ => turn c pre post n t u h tk own e1 e2 e3) (fun c u h tk _ => done c u h tk)
section
theorem shown_ok (w : World) (fg dl : Addr) (Sd : Nat) (t : Tok) (vs : List Value) (ns : List Nat) (hS : Sd < 281474976710656) (hi : IntsAre vs (ns.map Int.ofNat)) (hns : ∀ n ∈ ns, n < 281474976710656) (hlen : ns.length ≤ 10) :
    PureL w 8 204 [.ref fg, .int (Sd : Nat) t, .ref dl] [] (fun h => IntTab Pg w h fg figD ∧ h.IsList dl vs.toArray) (fun ys => StrsAre ys (ns.map fun n => lisS (restB 48 (Sd ^^^ n)))) := by
  ((((w_top off; intro p loose mean mg mb dp un gd cn cs a ccd cl outer A₀ base h₀ L m s Q E B F X T hk hpre hdp hun hret; ((have hfill : (fun (_ : OpenLaw) (_ : Params → Frag) => True) PySem.Challenge.rw_om0013_01 KK := (by k_fill; trivial); clear hfill)))); ((refine wpAny_call ?_; k_dflt (refine' enter0 ?k1 ?k2 ?k3 ?k5 rfl rfl (by assumption) ?k6 ?k7 ?k8 ?k9 ?kB ?_ ?c2 ?c3 ?c4 ?c5; (case k1 => k_asm); (case k2 => k_asm); (case k3 => k_asm); (case k5 => k_asm); (case k6 => k_is); (case k7 => k_is); (case k8 => ktr_room); (case k9 => (first | exact BindsTo.of_eq rfl | exact binds_K (by k_in) rfl (by k_is) rfl rfl rfl)); (case c5 => decide); (case kB => exact locs rfl); (case c2 => exact rfl); (case c3 => exact rfl); (case c4 => exact rfl); k_whole); intro g9 L9 h9 kp9 F9 N9 B9 X9 T9; (((try dsimp only); (try k_fold)))))))
  rename IntTab _ _ _ _ _ ∧ _ => hpre
  obtain ⟨hT0, hL0⟩ := hpre
  rename Kp _ _ => kp9
  have hT : IntTab Pg w _ fg figD := TabAt.keep hT0 kp9
  have hL := Heap.IsList.at hL0 fun o e => kp9 _ o e
  (repeat' (first | ((k_unfold; (try dsimp only))) | ((first | ((with_reducible show wpAny _ _ (call (Value.ref 197) _ _) _ _ _); (k_dflt (refine' Pure.use (written_ok _ _ _ (by assumption) (by assumption)) ?k1 ?k2 ?k3 ?k4 ?k5 ?kK ?kp ?kd ?ku ?_; (case k1 => k_asm); (case k2 => k_asm); (case k3 => k_asm); (case k4 => k_asm); (case k5 => k_asm); (case kK => first | exact rfl | assumption); (case kp => first | trivial | assumption | exact TabAt.keep (by assumption) (Fr.keep (by assumption))); (case kd => ktr_room); (case ku => ktr_units))); ((intro t8 h8 tk8 F8 N8; (((try dsimp only); (try k_fold)))))) | ((with_reducible show wpAny _ _ (call (Value.ref 190) _ _) _ _ _); (k_dflt (refine' Pure.use (run_w _ _ _ (by assumption) _) ?k1 ?k2 ?k3 ?k4 ?k5 ?kK ?kp ?kd ?ku ?_; (case k1 => k_asm); (case k2 => k_asm); (case k3 => k_asm); (case k4 => k_asm); (case k5 => k_asm); (case kK => first | exact rfl | assumption); (case kp => first | trivial | assumption | exact TabAt.keep (by assumption) (Fr.keep (by assumption))); (case kd => ktr_room); (case ku => ktr_units))); ((intro t8 h8 tk8 F8 N8; (((try dsimp only); (try k_fold)))))) | ((with_reducible show wpAny _ _ (call (Value.ref 75) _ _) _ _ _); (k_dflt (refine' Pure.use (filemode_ok _ _ _ (restB_lt _ _)) ?k1 ?k2 ?k3 ?k4 ?k5 ?kK ?kp ?kd ?ku ?_; (case k1 => k_asm); (case k2 => k_asm); (case k3 => k_asm); (case k4 => k_asm); (case k5 => k_asm); (case kK => first | exact rfl | assumption); (case kp => first | trivial | assumption | exact TabAt.keep (by assumption) (Fr.keep (by assumption))); (case kd => ktr_room); (case ku => ktr_units))); ((intro t8 h8 tk8 F8 N8; (((try dsimp only); (try k_fold)))))))) | ((fail_if_success (with_reducible show wpAny _ _ (exec (Stmt.While _ _ _ _) _) _ _ _)); (((fail_if_success (with_reducible show wpAny _ _ (pyIter _) _ _ _)); (fail_if_success (with_reducible show wpAny _ _ (exec (Stmt.For _ _ _ _ _) _) _ _ _)); (fail_if_success (with_reducible show wpAny _ _ (eval (Expr.ListComp _ _ _ _) _) _ _ _)); (fail_if_success (with_reducible show wpAny _ _ (exec (Stmt.Assign _ (Expr.ListComp _ _ _ _) _) _) _ _ _)); walk1; (try dsimp only)))) | dsimp only))
  rename Fr _ _ _ _ => F0
  refine For_invVF F0 rfl rfl ?_
  (repeat' (first | ((k_unfold; (try dsimp only))) | ((first | ((with_reducible show wpAny _ _ (call (Value.ref 197) _ _) _ _ _); (k_dflt (refine' Pure.use (written_ok _ _ _ (by assumption) (by assumption)) ?k1 ?k2 ?k3 ?k4 ?k5 ?kK ?kp ?kd ?ku ?_; (case k1 => k_asm); (case k2 => k_asm); (case k3 => k_asm); (case k4 => k_asm); (case k5 => k_asm); (case kK => first | exact rfl | assumption); (case kp => first | trivial | assumption | exact TabAt.keep (by assumption) (Fr.keep (by assumption))); (case kd => ktr_room); (case ku => ktr_units))); ((intro t8 h8 tk8 F8 N8; (((try dsimp only); (try k_fold)))))) | ((with_reducible show wpAny _ _ (call (Value.ref 190) _ _) _ _ _); (k_dflt (refine' Pure.use (run_w _ _ _ (by assumption) _) ?k1 ?k2 ?k3 ?k4 ?k5 ?kK ?kp ?kd ?ku ?_; (case k1 => k_asm); (case k2 => k_asm); (case k3 => k_asm); (case k4 => k_asm); (case k5 => k_asm); (case kK => first | exact rfl | assumption); (case kp => first | trivial | assumption | exact TabAt.keep (by assumption) (Fr.keep (by assumption))); (case kd => ktr_room); (case ku => ktr_units))); ((intro t8 h8 tk8 F8 N8; (((try dsimp only); (try k_fold)))))) | ((with_reducible show wpAny _ _ (call (Value.ref 75) _ _) _ _ _); (k_dflt (refine' Pure.use (filemode_ok _ _ _ (restB_lt _ _)) ?k1 ?k2 ?k3 ?k4 ?k5 ?kK ?kp ?kd ?ku ?_; (case k1 => k_asm); (case k2 => k_asm); (case k3 => k_asm); (case k4 => k_asm); (case k5 => k_asm); (case kK => first | exact rfl | assumption); (case kp => first | trivial | assumption | exact TabAt.keep (by assumption) (Fr.keep (by assumption))); (case kd => ktr_room); (case ku => ktr_units))); ((intro t8 h8 tk8 F8 N8; (((try dsimp only); (try k_fold)))))))) | ((fail_if_success (with_reducible show wpAny _ _ (exec (Stmt.While _ _ _ _) _) _ _ _)); (((fail_if_success (with_reducible show wpAny _ _ (pyIter _) _ _ _)); (fail_if_success (with_reducible show wpAny _ _ (exec (Stmt.For _ _ _ _ _) _) _ _ _)); (fail_if_success (with_reducible show wpAny _ _ (eval (Expr.ListComp _ _ _ _) _) _ _ _)); (fail_if_success (with_reducible show wpAny _ _ (exec (Stmt.Assign _ (Expr.ListComp _ _ _ _) _) _) _ _ _)); walk1; (try dsimp only)))) | dsimp only))
  rename Fr _ _ _ _ => F0
  rename News _ _ _ _ => N0
  refine mlist (σ := List Value × Nat) (fun c => [(_, W.listOf c.1.toArray c.2)]) (fun c => []) [Str.ofString "text"] (fun pre c => StrsAre c.1 (pre.map fun n => lisS (restB 48 (Sd ^^^ n.toNat)))) ([], 0) rfl hL hi F0 N0 (by kst_all) .nil ?_ ?_
  · clear F0 N0
    rintro ⟨ss, nn⟩ pre post n tn u h tk own hks hmem hoff hI F1 N1
    simp only [kstB, List.cons_append, List.nil_append, List.map_cons, List.map_nil] at hI F1 N1 hoff ⊢
    obtain ⟨N, hN, rfl⟩ := List.mem_map.mp hmem
    have hMk9 := kstMark
    have hNl := hns N hN
    have hbx : Builtin.bitXor (Sd : Int) (Int.ofNat N) = ((Sd ^^^ N : Nat) : Int) := bx Sd N
    have hxl : Sd ^^^ N < 2 ^ 48 := Nat.xor_lt_two_pow (n := 48) hS hNl
    have hb0 : 0 ≤ Builtin.bitXor (Sd : Int) (Int.ofNat N) := by rw [hbx]; omega
    have hb1 : Builtin.bitXor (Sd : Int) (Int.ofNat N) < 2 ^ 48 := by rw [hbx]; omega
    have hb2 : (Builtin.bitXor (Sd : Int) (Int.ofNat N)).toNat < 281474976710656 := by rw [hbx]; omega
    have hvl : ss.length ≤ 12 := by
      rw [strs_len hI, List.length_map]
      have := congrArg List.length hks
      simp only [List.length_map, List.length_append, List.length_cons] at this
      omega
    refine wpAny_q fun QB hQB => ?_
    (repeat' (first | ((k_unfold; (try dsimp only))) | ((first | ((with_reducible show wpAny _ _ (call (Value.ref 197) _ _) _ _ _); (k_dflt (refine' Pure.use (written_ok _ _ _ (by assumption) (by assumption)) ?k1 ?k2 ?k3 ?k4 ?k5 ?kK ?kp ?kd ?ku ?_; (case k1 => k_asm); (case k2 => k_asm); (case k3 => k_asm); (case k4 => k_asm); (case k5 => k_asm); (case kK => first | exact rfl | assumption); (case kp => first | trivial | assumption | exact TabAt.keep (by assumption) (Fr.keep (by assumption))); (case kd => ktr_room); (case ku => ktr_units))); ((intro t8 h8 tk8 F8 N8; (((try dsimp only); (try k_fold)))))) | ((with_reducible show wpAny _ _ (call (Value.ref 190) _ _) _ _ _); (k_dflt (refine' Pure.use (run_w _ _ _ (by assumption) _) ?k1 ?k2 ?k3 ?k4 ?k5 ?kK ?kp ?kd ?ku ?_; (case k1 => k_asm); (case k2 => k_asm); (case k3 => k_asm); (case k4 => k_asm); (case k5 => k_asm); (case kK => first | exact rfl | assumption); (case kp => first | trivial | assumption | exact TabAt.keep (by assumption) (Fr.keep (by assumption))); (case kd => ktr_room); (case ku => ktr_units))); ((intro t8 h8 tk8 F8 N8; (((try dsimp only); (try k_fold)))))) | ((with_reducible show wpAny _ _ (call (Value.ref 75) _ _) _ _ _); (k_dflt (refine' Pure.use (filemode_ok _ _ _ (restB_lt _ _)) ?k1 ?k2 ?k3 ?k4 ?k5 ?kK ?kp ?kd ?ku ?_; (case k1 => k_asm); (case k2 => k_asm); (case k3 => k_asm); (case k4 => k_asm); (case k5 => k_asm); (case kK => first | exact rfl | assumption); (case kp => first | trivial | assumption | exact TabAt.keep (by assumption) (Fr.keep (by assumption))); (case kd => ktr_room); (case ku => ktr_units))); ((intro t8 h8 tk8 F8 N8; (((try dsimp only); (try k_fold)))))))) | ((fail_if_success (with_reducible show wpAny _ _ (exec (Stmt.While _ _ _ _) _) _ _ _)); (((fail_if_success (with_reducible show wpAny _ _ (pyIter _) _ _ _)); (fail_if_success (with_reducible show wpAny _ _ (exec (Stmt.For _ _ _ _ _) _) _ _ _)); (fail_if_success (with_reducible show wpAny _ _ (eval (Expr.ListComp _ _ _ _) _) _ _ _)); (fail_if_success (with_reducible show wpAny _ _ (exec (Stmt.Assign _ (Expr.ListComp _ _ _ _) _) _) _ _ _)); walk1; (try dsimp only)))) | dsimp only))
    · exfalso
      rename _ ≠ (8 : Int) => hne
      exact hne rfl
    · rename Fr _ _ _ _ => F2
      rename News _ _ _ _ => N2
      simp only [List.push_toArray] at N2
      refine hQB _ _ ?_
      refine tpost_end (_, _) F2 N2 (fun p hp => by rw [List.mem_singleton.mp hp]; exact .head _) (fun p hp => .tail _ hp) rfl (by kst_all) (by kst_same) ?_
      rw [List.map_append, List.map_cons, List.map_nil, hbx]
      exact strs_snoc hI
  · clear F0 N0
    rintro ⟨ss, nn⟩ u h tk hI F1 N1
    simp only [kstB] at hI F1 N1 ⊢
    (repeat' (first | ((k_unfold; (try dsimp only))) | ((first | ((with_reducible show wpAny _ _ (call (Value.ref 197) _ _) _ _ _); (k_dflt (refine' Pure.use (written_ok _ _ _ (by assumption) (by assumption)) ?k1 ?k2 ?k3 ?k4 ?k5 ?kK ?kp ?kd ?ku ?_; (case k1 => k_asm); (case k2 => k_asm); (case k3 => k_asm); (case k4 => k_asm); (case k5 => k_asm); (case kK => first | exact rfl | assumption); (case kp => first | trivial | assumption | exact TabAt.keep (by assumption) (Fr.keep (by assumption))); (case kd => ktr_room); (case ku => ktr_units))); ((intro t8 h8 tk8 F8 N8; (((try dsimp only); (try k_fold)))))) | ((with_reducible show wpAny _ _ (call (Value.ref 190) _ _) _ _ _); (k_dflt (refine' Pure.use (run_w _ _ _ (by assumption) _) ?k1 ?k2 ?k3 ?k4 ?k5 ?kK ?kp ?kd ?ku ?_; (case k1 => k_asm); (case k2 => k_asm); (case k3 => k_asm); (case k4 => k_asm); (case k5 => k_asm); (case kK => first | exact rfl | assumption); (case kp => first | trivial | assumption | exact TabAt.keep (by assumption) (Fr.keep (by assumption))); (case kd => ktr_room); (case ku => ktr_units))); ((intro t8 h8 tk8 F8 N8; (((try dsimp only); (try k_fold)))))) | ((with_reducible show wpAny _ _ (call (Value.ref 75) _ _) _ _ _); (k_dflt (refine' Pure.use (filemode_ok _ _ _ (restB_lt _ _)) ?k1 ?k2 ?k3 ?k4 ?k5 ?kK ?kp ?kd ?ku ?_; (case k1 => k_asm); (case k2 => k_asm); (case k3 => k_asm); (case k4 => k_asm); (case k5 => k_asm); (case kK => first | exact rfl | assumption); (case kp => first | trivial | assumption | exact TabAt.keep (by assumption) (Fr.keep (by assumption))); (case kd => ktr_room); (case ku => ktr_units))); ((intro t8 h8 tk8 F8 N8; (((try dsimp only); (try k_fold)))))))) | ((fail_if_success (with_reducible show wpAny _ _ (exec (Stmt.While _ _ _ _) _) _ _ _)); (((fail_if_success (with_reducible show wpAny _ _ (pyIter _) _ _ _)); (fail_if_success (with_reducible show wpAny _ _ (exec (Stmt.For _ _ _ _ _) _) _ _ _)); (fail_if_success (with_reducible show wpAny _ _ (eval (Expr.ListComp _ _ _ _) _) _ _ _)); (fail_if_success (with_reducible show wpAny _ _ (exec (Stmt.Assign _ (Expr.ListComp _ _ _ _) _) _) _ _ _)); walk1; (try dsimp only)))) | dsimp only))
    rename ∀ (D : Addr) (ys : List Value) (c : Nat) (h' : Heap) (tk' : Nat), Kp _ _ → _ => hr9
    refine end_list hr9 (by assumption) F1 N1 (.head _) ?_
    rw [List.map_map] at hI
    exact hI
end
theorem ints_mem : ∀ {vs : List Value} {ns : List Int}, IntsAre vs ns → ∀ v ∈ vs, ∃ n t, v = .int n t
  | _, _, .nil, _, h => nomatch h
  | _, _, .cons n t r, v, h => by
    rcases List.mem_cons.mp h with rfl | h
    · exact ⟨n, t, rfl⟩
    · exact ints_mem r v h
theorem ints_sub {vs : List Value} (h : ∀ v ∈ vs, ∃ n t, v = Value.int n t) : ∃ ns, IntsAre vs ns := by
  induction vs with
  | nil => exact ⟨[], .nil⟩
  | cons v vs ih =>
    obtain ⟨n, t, rfl⟩ := h v (.head _)
    obtain ⟨ns, hs⟩ := ih fun v hv => h v (.tail _ hv)
    exact ⟨_, .cons n t hs⟩
theorem pick_ints {vs : List Value} {ns : List Int} (h : IntsAre vs ns) (lo hi st : Option Int) : ∃ ns', IntsAre (slicePick vs.toArray lo hi st).toList ns' := by
  refine ints_sub fun v hv => ?_
  unfold slicePick at hv
  simp only [List.mem_filterMap] at hv
  obtain ⟨i, _, hi⟩ := hv
  exact ints_mem h v (List.mem_of_getElem? (by simpa using hi))
noncomputable def FKs (v : Value) (k : Int) : Prop := ∀ j t, v = .int j t → k = ((sg j.toNat : Nat) : Int)
theorem sg_inj {j k : Nat} (hj : j < 64) (hk : k < 64) (e : sg j = sg k) : j = k := by
  have h1 := fig_look j hj
  have h2 := fig_look k hk
  rw [e, h2] at h1
  have h3 : (PyData.int (k : Nat)) = PyData.int (j : Nat) := Option.some.inj h1
  injection h3 with h4
  exact (Int.ofNat_inj.mp h4).symm
theorem flat_snoc {enc : Int → PyData} {k : Int} {v : Value} {d : PyData} : ∀ {kvs : List (Int × Value)} {D : List (PyData × PyData)}, PyProof.V.FlatPairs enc kvs D → PyProof.V.Flat v d → PyProof.V.FlatPairs enc (kvs ++ [(k, v)]) (D ++ [(enc k, d)])
  | _, _, .nil, h => .cons h .nil
  | _, _, .cons h r, h' => .cons h (flat_snoc r h')
theorem stored_fig {vs : List Value} {kvs : List (Int × Value)} (h : StoredAll FKs Same vs kvs) (hv : ∀ (j : Nat) v, vs[j]? = some v → ∃ t, v = Value.int (j : Nat) t) (hl : vs.length ≤ 64) :
    PyProof.V.FlatPairs PyData.int kvs ((List.range vs.length).map fun k => (PyData.int (sg k : Nat), PyData.int k)) ∧ kvs.map (·.1) = (List.range vs.length).map fun k => ((sg k : Nat) : Int) := by
  induction h with
  | nil => exact ⟨.nil, rfl⟩
  | @snoc l kvs v k y hs hk hy ih =>
    rw [List.length_append, List.length_cons, List.length_nil] at hl
    obtain ⟨i1, i2⟩ := ih (fun j v hj => hv j v (by rw [List.getElem?_append_left (List.getElem?_eq_some_iff.mp hj).1]; exact hj)) (by omega)
    obtain ⟨t, rfl⟩ := hv l.length v (by simp)
    have hk' := hk _ _ rfl
    rw [Int.toNat_natCast] at hk'
    subst hk'
    have hy' : y = Value.int (l.length : Nat) t := hy
    subst hy'
    have hany : (kvs.any fun kv => decide (kv.1 = ((sg l.length : Nat) : Int))) = false := by
      rw [List.any_eq_false]
      intro kv hkv hd
      have hd := of_decide_eq_true hd
      have : kv.1 ∈ kvs.map (·.1) := List.mem_map.mpr ⟨kv, hkv, rfl⟩
      rw [i2] at this
      obtain ⟨j, hj, e⟩ := List.mem_map.mp this
      have hj' := List.mem_range.mp hj
      have e2 : sg j = sg l.length := by rw [hd] at e; exact Int.ofNat_inj.mp e
      have := sg_inj (by omega) (by omega) e2
      omega
    have est : stored kvs ((sg l.length : Nat) : Int) (Value.int (l.length : Nat) t) = kvs ++ [(((sg l.length : Nat) : Int), Value.int (l.length : Nat) t)] := by
      unfold stored; rw [if_neg (by rw [hany]; exact Bool.false_ne_true)]
    rw [est, List.length_append, List.length_cons, List.length_nil, List.range_succ, List.map_append, List.map_append, List.map_append]
    refine ⟨flat_snoc i1 ?_, by rw [i2]; rfl⟩
    exact PyProof.V.Flat.int _ _
theorem fig_tab {w : World} {h : Heap} {D : Addr} {oD : Obj} {vs : List Value} {kvs : List (Int × Value)} (hs : StoredAll FKs Same vs kvs) (hv : ∀ (j : Nat) v, vs[j]? = some v → ∃ t, v = Value.int (j : Nat) t) (hl : vs.length = 64) (hD : (D == sysModules) = false) (ho : h.get? D = some oD) (hd : oD.IsDictOf (intKind Pg w) kvs) : IntTab Pg w h D figD := by
  have := (stored_fig hs hv (Nat.le_of_eq hl)).1
  rw [hl] at this
  exact TabAt.ofObj hD ho hd this
theorem pick8 (a0 a1 a2 a3 a4 a5 a6 a7 : UInt8) : KBy.picked #[a0, a1, a2, a3, a4, a5, a6, a7] none (some 6) = #[a0, a1, a2, a3, a4, a5] := by
  have h : sliceBounds none (some 6) none 8 = (0, 6, 1) := by decide +kernel
  have h2 : sliceRange 0 6 1 = [0, 1, 2, 3, 4, 5] := by decide +kernel
  unfold KBy.picked
  rw [show (#[a0, a1, a2, a3, a4, a5, a6, a7] : Array UInt8).size = 8 from rfl, h]
  unfold Builtin.Bytes.sliced
  rw [h2]; rfl
theorem whole8 (a0 a1 a2 a3 a4 a5 a6 a7 : UInt8) : KBy.whole #[a0, a1, a2, a3, a4, a5, a6, a7] none (some 6) = false := by
  have h : sliceBounds none (some 6) none 8 = (0, 6, 1) := by decide +kernel
  unfold KBy.whole
  rw [show (#[a0, a1, a2, a3, a4, a5, a6, a7] : Array UInt8).size = 8 from rfl, h]; rfl
theorem pick_txt (R : Nat) : KBy.picked (BA (txtN R)) none (some 6) = BA (((figN R).take 6).map sg) := pick8 ..
theorem whole_txt (R : Nat) : KBy.whole (BA (txtN R)) none (some 6) = false := whole8 ..
theorem run_six_ok (w : World) (fg : Addr) (R : Nat) (h : R < 281474976710656) (t : Tok) : Pure w 2 190 [.ref fg, .bytes (KBy.picked (BA (txtN R)) none (some 6)) t] [] (fun h => IntTab Pg w h fg figD) (fun t => .int (restB 36 (R / 4096) : Nat) t) := by
  have := run_ok w fg ((figN R).take 6) (fun f hf => fig_lt R f (List.mem_of_mem_take hf)) t
  rw [run_six R h] at this
  rw [pick_txt]
  exact this
theorem written_msg (w : World) (M : Nat) (h : M < 68719476736) (t : Tok) : Pure w 6 197 [.int ((M : Int) * 4096) t] [] (fun _ => True) (fun t => .bytes (BA (txtN (M * 4096))) t) := by
  have := written_ok w ((M : Int) * 4096) t (by omega) (by omega)
  rw [show ((M : Int) * 4096).toNat = M * 4096 from by omega] at this
  exact this
theorem run_seal (w : World) (fg : Addr) (M : Nat) (h : M < 68719476736) (t : Tok) : Pure w 2 190 [.ref fg, .bytes (KBy.picked (BA (txtN (M * 4096))) none (some 6)) t] [] (fun h => IntTab Pg w h fg figD) (fun t => .int (restB 48 M : Nat) t) := by
  have := run_six_ok w fg (M * 4096) (by omega) t
  rw [Nat.mul_div_cancel _ (by decide), ← restB_ext 36 12 M (by omega)] at this
  exact this
theorem rest_ok2 (w : World) (R : Nat) (t : Tok) (h : R < 281474976710656) : Pure w 1 164 [.int (R : Nat) t] [] (fun _ => True) (fun t => .int (restB 48 R : Nat) t) := by
  have := rest_ok w (R : Nat) t (by omega) (by omega)
  rw [rest_is] at this
  exact this
theorem not_sys {g : Heap} {D : Addr} (hs : g.NoSeer) (hD : g.get? D = none) : (D == sysModules) = false := by
  obtain ⟨mm, ⟨o, _, _, ho, _⟩, _⟩ := hs.mods
  cases e : D == sysModules with
  | false => rfl
  | true => rw [beq_iff_eq.mp e, ho] at hD; cases hD
theorem slice_txt {prog : Program} {w : World} {A : Around} {E : Value → Shared → Prop} {value slice : Expr} {t u : Tok} {h₀ : Heap} {L : Addr} {m : Str → Option Value} {news : List (Addr × Obj)} {Q : Value → Shared → Prop} {R : Nat} {hp : Heap} {gs : Array GenState} {dr : Drawn} {tk : Nat} {os : OsState}
    (hF : Fr h₀ L hp m) (hN : News h₀ L hp news)
    (h : ∀ h' t' k, Fr h₀ L h' m → News h₀ L h' news → Q (.bytes (KBy.picked (BA (txtN R)) none (some 6)) t') ⟨h', gs, dr, k, os⟩)
    (hs : subscripted slice false (.bytes (BA (txtN R)) t) (.ref hp.objs.size) = operate [.ref hp.objs.size, .bytes (BA (txtN R)) t] (getItem (.bytes (BA (txtN R)) t) (.ref hp.objs.size)))
    (ht : ∀ r, letTemporaryGo value (.bytes (BA (txtN R)) t) r = pure ()) :
    wpAny (model prog w) A (subscriptTail value slice (.bytes (BA (txtN R)) t) (.ref hp.objs.size)) Q E ⟨hp.push { cls := .type "slice", data := .fields #[.none, .int 6 u, .none] }, gs, dr, tk, os⟩ :=
  KBy.slice_N (s := ⟨hp, gs, dr, tk, os⟩) hF hN .none (.int _ _) (whole_txt R) (by rw [pick_txt]; exact Nat.le_of_ble_eq_true rfl) h hs ht
theorem Pure.useK {w : World} {k : Nat} {f : Addr} {vs : List Value} {kw : List (Str × Value)} {pre : Heap → Prop} {R : Tok → Value} (P : Pure w k f vs kw pre R)
    {p : Program} {loose : List Str} {mean : ExcName → Option Value} {mg mb : Str → Option Value} {dp un : Nat} {gd : Option (List Code)} {cn : Str} {cs : Scope} {a : Addr} {ccd : Value} {cl : List (Str × Addr)} {outer : List Env} {A₀ : Around} {base h₀ : Heap} {L : Addr} {m : Str → Option Value} {news : List (Addr × Obj)} {s : Shared} {Q E : Value → Shared → Prop}
    (B : Below A₀ base outer h₀) (F : Fr h₀ L s.heap m) (X : (KK w.params).In h₀) (N : News h₀ L s.heap news) (T : Top p loose mean mg mb h₀) (hk : cs.kind = .function) (hp : pre s.heap) (hdp : dp + k < recursionLimit) (hun : un + 8 * k < cLine)
    (h : ∀ (t : Tok) (h' : Heap) (tk' : Nat), Kp s.heap h' → Fr h₀ L h' m → News h₀ L h' news → Q (R t) { s with heap := h', toks := tk' }) :
    wpAny (model Pg w) (ktrTop dp un gd cn cs L a ccd cl outer) (call (.ref f) vs kw) Q E s := by
  refine P p loose mean mg mb dp un gd cn cs a ccd cl outer A₀ base h₀ L m s Q E B F X T hk hp hdp hun fun t h' tk' kp => ?_
  obtain ⟨oL, es, ep, hL, r⟩ := F.ns
  exact h t h' tk' kp ⟨⟨oL, es, ep, kp _ _ hL, r⟩, fun b o e => kp _ _ (F.keep b o e), F.above⟩ fun p hp => ⟨kp _ _ (N p hp).1, (N p hp).2⟩
theorem belowAt {A : Around} {g h : Heap} {L : Addr} {m : Str → Option Value} {o : List Env} (_ : Fr g L h m) (B : Below A g o g) : Below A g o g := B
theorem strs_canLay : ∀ ns : List Str, (∀ x ∈ ns, PyData.strOk x = true) → PyData.canLayAll0 (ns.map PyData.str) = true
  | [], _ => rfl
  | a :: r, h => by simp [PyData.canLayAll0, PyData.canLay0, h a (.head _), strs_canLay r fun x hx => h x (.tail _ hx)]
theorem strs_depth : ∀ ns : List Str, PyData.depthAll (ns.map PyData.str) = 0
  | [] => rfl
  | _ :: r => by simp [PyData.depthAll, PyData.depth, strs_depth r]
theorem strs_shaped (ns : List Str) (h : ∀ x ∈ ns, PyData.strOk x = true) : SeqAt.shaped (.list (ns.map PyData.str)) = true := by
  simp [SeqAt.shaped, PyData.canLay0, PyData.depth, strs_canLay ns h, strs_depth]
theorem strs_carried : ∀ {vs : List Value} {ns : List Str}, StrsAre vs ns → CarriedAll vs (ns.map PyData.str)
  | _, _, .nil => .nil
  | _, _, .cons _ t r => .cons (.str _ t) (strs_carried r)
theorem strs_eqv : ∀ ns : List Str, PyData.eqvAll (ns.map PyData.str) (ns.map PyData.str) = true
  | [] => rfl
  | _ :: r => by simp [PyData.eqvAll, PyData.eqv, strs_eqv r]
theorem ne_strs {prog : Program} {w : World} {A : Around} {E : Value → Shared → Prop} {s : Shared} {a b : Addr} {xs ys : List Value} {ns : List Str} {Q : Value → Shared → Prop} (ha : s.heap.IsList a xs.toArray) (hb : s.heap.IsList b ys.toArray) (hi : StrsAre xs ns) (hj : StrsAre ys ns) (hok : ∀ x ∈ ns, PyData.strOk x = true) (hu : A.units + 64 < cLine) (h : Q (.bool false) s) :
    wpAny (model prog w) A (compareOp .NotEq (.ref a) (.ref b)) Q E s := by
  refine ne_dataH (reads_newData ha (strs_carried hi)) (reads_newData hb (strs_carried hj)) (strs_shaped _ hok) (strs_shaped _ hok) hu ?_
  rw [show PyData.eqv (.list (ns.map PyData.str)) (.list (ns.map PyData.str)) = true from by simp only [PyData.eqv]; exact strs_eqv ns]
  exact h
theorem lis_ok (R : Nat) : PyData.strOk (lisS R) = true := by
  have h1 : ∀ k c, c < 128 → cR R k c < 128 := fun k c hc => by unfold cR; split <;> omega
  have h2 : ∀ j k s S x, s < 128 → S < 128 → x < 128 → c3 R j k s S x < 128 := fun j k s S x a b c => by unfold c3; (repeat' split) <;> omega
  have hall : ∀ c ∈ lisC R, c < 128 := by
    unfold lisC
    simp only [List.forall_mem_cons, List.not_mem_nil, false_implies, implies_true, and_true]
    exact ⟨by decide, h1 _ _ (by decide), h1 _ _ (by decide), h2 _ _ _ _ _ (by decide) (by decide) (by decide), h1 _ _ (by decide), h1 _ _ (by decide), h2 _ _ _ _ _ (by decide) (by decide) (by decide), h1 _ _ (by decide), h1 _ _ (by decide), h2 _ _ _ _ _ (by decide) (by decide) (by decide)⟩
  show (lisC R).toArray.all (fun c => decide (c < 0x110000)) = true
  rw [List.all_toArray]
  exact List.all_eq_true.mpr fun c hc => decide_eq_true (by have := hall c hc; omega)
theorem bit0 {R k c : Nat} (hc : c ≠ 45) (h : cR R k c = 45) : R / 2 ^ k % 2 = 0 := by
  unfold cR at h
  split at h
  · exact absurd h hc
  · omega
theorem bit00 {R j k s S x : Nat} (hs : s ≠ 45) (hS : S ≠ 45) (hx : x ≠ 45) (h : c3 R j k s S x = 45) : R / 2 ^ j % 2 = 0 ∧ R / 2 ^ k % 2 = 0 := by
  unfold c3 at h
  (repeat' split at h) <;> first | exact absurd h hs | exact absurd h hS | exact absurd h hx | omega
theorem lis_zero (R : Nat) (hR : R < 4096) (h : lisS R = Str.ofString "?---------") : R = 0 := by
  have e : Str.ofString "?---------" = ⟨#[63, 45, 45, 45, 45, 45, 45, 45, 45, 45]⟩ := rfl
  rw [e] at h
  have h2 : lisC R = [63, 45, 45, 45, 45, 45, 45, 45, 45, 45] := by
    have := congrArg (fun x => x.cps.toList) h
    simpa [lisS] using this
  unfold lisC at h2
  simp only [List.cons.injEq, true_and, and_true] at h2
  obtain ⟨h8, h7, h6, h5, h4, h3, g2, g1, g0⟩ := h2
  have b8 := bit0 (by decide) h8
  have b7 := bit0 (by decide) h7
  obtain ⟨b6, b11⟩ := bit00 (by decide) (by decide) (by decide) h6
  have b5 := bit0 (by decide) h5
  have b4 := bit0 (by decide) h4
  obtain ⟨b3, b10⟩ := bit00 (by decide) (by decide) (by decide) h3
  have b2 := bit0 (by decide) g2
  have b1 := bit0 (by decide) g1
  obtain ⟨b0, b9⟩ := bit00 (by decide) (by decide) (by decide) g0
  apply Nat.eq_of_testBit_eq; intro i
  rw [Nat.zero_testBit]
  by_cases hi : 12 ≤ i
  · exact Nat.testBit_lt_two_pow (Nat.lt_of_lt_of_le hR (Nat.pow_le_pow_right (n := 2) (by decide) hi))
  · rw [Nat.testBit_eq_decide_div_mod_eq]
    have hz : R / 2 ^ i % 2 = 0 := by
      match i, hi with
      | 0, _ => exact b0
      | 1, _ => exact b1
      | 2, _ => exact b2
      | 3, _ => exact b3
      | 4, _ => exact b4
      | 5, _ => exact b5
      | 6, _ => exact b6
      | 7, _ => exact b7
      | 8, _ => exact b8
      | 9, _ => exact b9
      | 10, _ => exact b10
      | 11, _ => exact b11
      | n + 12, h => exact absurd (Nat.le_add_left 12 n) h
    rw [hz]; rfl
noncomputable def val (c : Nat) : Nat := if c = 45 then 0 else if c = 115 ∨ c = 116 then 2 else 1
theorem rights_cons (c : Nat) (l : List Nat) : rightsL (c :: l) = val c + rightsL l := by
  unfold rightsL val
  by_cases h : c = 45
  · subst h; simp
  · by_cases h2 : c = 115 ∨ c = 116
    · have e : (c == 115 || c == 116) = true := by rcases h2 with rfl | rfl <;> rfl
      simp only [List.filter_cons, bne_iff_ne.mpr h, if_true, e, List.length_cons, if_neg h, if_pos h2]; omega
    · have e : (c == 115 || c == 116) = false := by simp only [not_or] at h2; simp [h2.1, h2.2]
      simp only [List.filter_cons, bne_iff_ne.mpr h, if_true, e, List.length_cons, if_neg h, if_neg h2, Bool.false_eq_true, if_false]; omega
theorem val_R (R k c : Nat) (h : val c = 1) : val (cR R k c) = R / 2 ^ k % 2 := by
  unfold cR
  split
  · rw [h]; omega
  · show val 45 = _
    rw [show val 45 = 0 from rfl]; omega
theorem val_3 (R j k s S x : Nat) (hs : val s = 2) (hS : val S = 1) (hx : val x = 1) : val (c3 R j k s S x) = R / 2 ^ j % 2 + R / 2 ^ k % 2 := by
  unfold c3
  have h45 : val 45 = 0 := rfl
  (repeat' split) <;> (first | rw [hs] | rw [hS] | rw [hx] | rw [h45]) <;> omega
noncomputable def bsum : Nat → Nat → Nat
  | 0, _ => 0
  | n + 1, R => R % 2 + bsum n (R / 2)
theorem par_bsum : ∀ n R, par n R = bsum n R % 2
  | 0, _ => rfl
  | n + 1, R => by
    rw [par, bsum, par_bsum n]
    rcases Nat.mod_two_eq_zero_or_one R with p | p <;> rcases Nat.mod_two_eq_zero_or_one (bsum n (R / 2)) with q | q <;> rw [p, q] <;> first | (show 0 = _; omega) | (show 1 = _; omega)
theorem rights_par (R : Nat) : rightsL (lisC R).tail % 2 = par 12 R := by
  rw [par_bsum]
  congr 1
  simp only [lisC, List.tail_cons, rights_cons, val_R R _ 114 rfl, val_R R _ 119 rfl, val_3 R _ _ 115 83 120 rfl rfl rfl, val_3 R _ _ 116 84 120 rfl rfl rfl]
  simp only [bsum, Nat.div_div_eq_div_mul, show rightsL [] = 0 from rfl, Nat.reducePow, Nat.reduceMul, Nat.div_one]
  ac_rfl
noncomputable def EqEl (v y : Value) : Prop := ∃ (x : Str) (t : Tok), v = .str x t ∧ y = .bool (x == Str.ofString "?---------")
theorem eq_els {a b c q : Str} {t0 t1 t2 t3 t4 : Tok} {zs : List Value} (hq : q = Str.ofString "?---------") (ha : a ≠ q) (hb : b ≠ q) (hc : c ≠ q) (h : Paired EqEl [.str q t0, .str a t1, .str b t2, .str c t3, .str q t4] zs) :
    zs = [.bool true, .bool false, .bool false, .bool false, .bool true] := by
  cases h with | cons e0 h => cases h with | cons e1 h => cases h with | cons e2 h => cases h with | cons e3 h => cases h with | cons e4 h =>
    cases h
    obtain ⟨x0, u0, v0, rfl⟩ := e0
    obtain ⟨x1, u1, v1, rfl⟩ := e1
    obtain ⟨x2, u2, v2, rfl⟩ := e2
    obtain ⟨x3, u3, v3, rfl⟩ := e3
    obtain ⟨x4, u4, v4, rfl⟩ := e4
    injection v0 with v0 _; injection v1 with v1 _; injection v2 with v2 _; injection v3 with v3 _; injection v4 with v4 _
    subst v0 v1 v2 v3 v4
    rw [← hq, beq_self_eq_true, beq_eq_false_iff_ne.mpr ha, beq_eq_false_iff_ne.mpr hb, beq_eq_false_iff_ne.mpr hc]
theorem count_bsum : ∀ n R, ((List.range n).filter fun k => R / 2 ^ k % 2 == 1).length = bsum n R
  | 0, _ => rfl
  | n + 1, R => by
    rw [List.range_succ_eq_map, List.filter_cons, List.filter_map, bsum, ← count_bsum n (R / 2)]
    have e : ((fun k => R / 2 ^ k % 2 == 1) ∘ Nat.succ) = fun k => R / 2 / 2 ^ k % 2 == 1 := by
      funext k
      show (R / 2 ^ (k + 1) % 2 == 1) = _
      rw [Nat.div_div_eq_div_mul, Nat.pow_succ, Nat.mul_comm]
    rw [e]
    simp only [Nat.pow_zero, Nat.div_one]
    rcases Nat.mod_two_eq_zero_or_one R with p | p
    · rw [if_neg (by rw [p]; decide), List.length_map, p, Nat.zero_add]
    · rw [if_pos (by rw [p]; decide), List.length_cons, List.length_map, p, Nat.add_comm]
theorem bsum_zero : ∀ n, bsum n 0 = 0
  | 0 => rfl
  | n + 1 => by rw [bsum, Nat.zero_div, bsum_zero n]
theorem bsum_ext : ∀ k n R, R < 2 ^ k → bsum (k + n) R = bsum k R
  | 0, n, R, h => by
    have : R = 0 := by simpa using h
    subst this; rw [bsum_zero, bsum_zero]
  | k + 1, n, R, h => by
    rw [show k + 1 + n = (k + n) + 1 from by omega, bsum, bsum, bsum_ext k n (R / 2) (by rw [Nat.pow_succ] at h; omega)]
theorem odd_par (M : Nat) (hM : M < 68719476736) : ∃ n : Nat, (M : Int) * 2 + 1 - (ones M : Int) % 2 = Int.ofNat n ∧ n < 281474976710656 ∧ par 12 (restB 48 n) = 1 := by
  have ho : ones M = bsum 36 M := count_bsum 36 M
  have h47 : bsum 47 M = bsum 36 M := bsum_ext 36 11 M hM
  rcases Nat.mod_two_eq_zero_or_one (ones M) with o | o
  · refine ⟨2 * M + 1, ?_, by omega, ?_⟩
    · rw [show (ones M : Int) % 2 = 0 from by exact_mod_cast o, Int.mul_comm]; rfl
    · rw [par_rest, par_bsum, bsum, Nat.mul_add_mod, Nat.mul_add_div (by decide), show M + 1 / 2 = M from rfl, h47, ← ho, Nat.add_mod, o]
  · refine ⟨2 * M, ?_, by omega, ?_⟩
    · rw [show (ones M : Int) % 2 = 1 from by exact_mod_cast o, Int.mul_comm, Int.add_sub_cancel]; rfl
    · rw [par_rest, par_bsum, bsum, Nat.mul_mod_right, Nat.mul_div_cancel_left _ (by decide), h47, ← ho, Nat.zero_add, o]
theorem two_places (d : Int) : ∃ n : Nat, (2 : Int) ^ (d.fmod 48).toNat + 2 ^ ((d.fmod 48 + 1 + (d.fdiv 48).fmod 47).fmod 48).toNat = Int.ofNat n ∧ n < 281474976710656 ∧ restB 48 n ≠ 0 := by
  rw [Int.fmod_eq_emod_of_nonneg d (by decide : (0 : Int) ≤ 48), Int.fmod_eq_emod_of_nonneg _ (by decide : (0 : Int) ≤ 47), Int.fmod_eq_emod_of_nonneg _ (by decide : (0 : Int) ≤ 48)]
  generalize hc : (d.fdiv 48) % 47 = c
  have hc0 : 0 ≤ c ∧ c < 47 := by omega
  generalize ha : (d % 48).toNat = a
  generalize hb : ((d % 48 + 1 + c) % 48).toNat = b
  have ha' : a < 48 := by omega
  have hb' : b < 48 := by omega
  have hab : a ≠ b := by omega
  refine ⟨2 ^ a + 2 ^ b, by simp, ?_, two_ne a b ha' hb' hab⟩
  have h1 : 2 ^ a ≤ 2 ^ 47 := Nat.pow_le_pow_right (by decide) (by omega)
  have h2 : 2 ^ b ≤ 2 ^ 47 := Nat.pow_le_pow_right (by decide) (by omega)
  rcases Nat.lt_or_gt_of_ne hab with h | h
  · have h3 : 2 ^ a ≤ 2 ^ 46 := Nat.pow_le_pow_right (by decide) (by omega)
    simp only [Nat.reducePow] at h1 h2 h3; omega
  · have h3 : 2 ^ b ≤ 2 ^ 46 := Nat.pow_le_pow_right (by decide) (by omega)
    simp only [Nat.reducePow] at h1 h2 h3; omega
theorem stretch_is (d : Int) : ∃ n : Nat, (1 + (d.fdiv 2256).fmod 4095) * 2 ^ (d.fmod 37).toNat = Int.ofNat n ∧ n < 281474976710656 ∧ restB 48 n ≠ 0 := by
  rw [Int.fmod_eq_emod_of_nonneg _ (by decide : (0 : Int) ≤ 4095), Int.fmod_eq_emod_of_nonneg d (by decide : (0 : Int) ≤ 37)]
  obtain ⟨p, hp, hp0, hp1⟩ : ∃ p : Nat, 1 + (d.fdiv 2256) % 4095 = (p : Int) ∧ 0 < p ∧ p < 4096 := ⟨(1 + (d.fdiv 2256) % 4095).toNat, by omega, by omega, by omega⟩
  generalize hk : (d % 37).toNat = k
  have hk' : k ≤ 36 := by omega
  rw [hp]
  refine ⟨p * 2 ^ k, by simp, ?_, stretch_ne p k hp0 hp1 hk'⟩
  have h1 : 2 ^ k ≤ 2 ^ 36 := Nat.pow_le_pow_right (by decide) hk'
  have h2 : p * 2 ^ k ≤ 4095 * 2 ^ 36 := Nat.mul_le_mul (by omega) h1
  exact Nat.lt_of_le_of_lt h2 (by decide)
theorem dmg_facts (M : Nat) (hM : M < 68719476736) (d : Int) : ∃ n1 n2 n3 n4 : Nat, dmg M d = [n1, n2, n3, n4].map Int.ofNat ∧ (∀ n ∈ [0, n1, n2, n3, n4], n < 281474976710656) ∧ restB 48 n1 ≠ 0 ∧ restB 48 n2 ≠ 0 ∧ par 12 (restB 48 n3) = 1 ∧ restB 48 n4 = 0 := by
  obtain ⟨n1, e1, l1, r1⟩ := two_places d
  obtain ⟨n2, e2, l2, r2⟩ := stretch_is d
  obtain ⟨n3, e3, l3, r3⟩ := odd_par M hM
  obtain ⟨r4, l4⟩ := blind_rest (1 + d.fmod (2 ^ 36 - 1)).toNat
  refine ⟨n1, n2, n3, blindF 36 0 6159 (1 + d.fmod (2 ^ 36 - 1)).toNat, ?_, ?_, r1, r2, r3, r4⟩
  · unfold dmg
    rw [e1, e2, Int.toNat_natCast, e3]; rfl
  · intro n hn
    simp only [List.mem_cons, List.not_mem_nil, or_false] at hn
    rcases hn with rfl | rfl | rfl | rfl | rfl
    · decide
    · exact l1
    · exact l2
    · exact l3
    · exact l4
theorem rights_ok2 (w : World) (R : Nat) (t : Tok) : Pure w 1 209 [.str (lisS R) t] [] (fun _ => True) (fun t => .int (rightsL (lisC R).tail : Nat) t) := rights_ok w R t
section
theorem dmg_ints {M : Nat} {d : Int} {ys : List Value} (hM : M < 68719476736) (h : IntsAre ys (dmg M d)) : ∃ n1 n2 n3 n4 : Nat, IntsAre ys ([n1, n2, n3, n4].map Int.ofNat) ∧ (∀ n ∈ [0, n1, n2, n3, n4], n < 281474976710656) ∧ restB 48 n1 ≠ 0 ∧ restB 48 n2 ≠ 0 ∧ par 12 (restB 48 n3) = 1 ∧ restB 48 n4 = 0 := by
  obtain ⟨n1, n2, n3, n4, e, r⟩ := dmg_facts M hM d
  rw [e] at h
  exact ⟨n1, n2, n3, n4, h, r⟩
theorem seal_or (M : Nat) : Builtin.bitOr ((M : Int) * 2 ^ Int.toNat 12) ((restB 48 M : Nat) : Int) = ((M * 4096 + restB 48 M : Nat) : Int) := by
  have e : ((M : Int) * 2 ^ Int.toNat 12) = ((M * 4096 : Nat) : Int) := by
    have : ((2 : Int) ^ Int.toNat 12) = 4096 := by decide
    rw [this]; omega
  rw [e, bo]
  have := Nat.two_pow_add_eq_or_of_lt (i := 12) (b := restB 48 M) (restB_lt 48 M) M
  rw [show 2 ^ 12 = 4096 from rfl, Nat.mul_comm] at this
  rw [this]
theorem shown_eq {M : Nat} {ns : List Nat} {ys : List Value} (hM : M < 68719476736) (h : StrsAre ys (ns.map fun n => lisS (restB 48 ((M * 4096 + restB 48 M) ^^^ n)))) : StrsAre ys (ns.map fun n => lisS (restB 48 n)) := by
  have e : (fun n => lisS (restB 48 ((M * 4096 + restB 48 M) ^^^ n))) = fun n => lisS (restB 48 n) := by
    funext n
    have h36 : restB 48 M = restB 36 M := restB_ext 36 12 M (by omega)
    rw [restB_xor, h36, sealed_zero, Nat.zero_xor]
  rw [e] at h; exact h
noncomputable def LisEl (v y : Value) : Prop := ∃ (n : Nat) (t t' : Tok), v = .int (n : Nat) t ∧ y = .str (lisS (restB 48 n)) t'
theorem lis_els : ∀ {ns : List Nat} {vs ys : List Value}, IntsAre vs (ns.map Int.ofNat) → Paired LisEl vs ys → StrsAre ys (ns.map fun n => lisS (restB 48 n))
  | [], _, _, h, p => by cases h; cases p; exact .nil
  | n :: ns, _, _, h, p => by
    cases h with
    | cons _ t r =>
      cases p with
      | cons e q =>
        obtain ⟨k, t1, t2, e1, rfl⟩ := e
        injection e1 with e1 _
        have : n = k := Int.ofNat_inj.mp e1
        subst this
        exact .cons _ _ (lis_els r q)
theorem ints_at : ∀ {ns : List Nat} {vs : List Value}, IntsAre vs (ns.map Int.ofNat) → ∀ (i : Nat) v, vs[i]? = some v → ∃ n ∈ ns, ∃ t, v = .int (n : Nat) t
  | [], _, h, i, v, e => by cases h; cases e
  | n :: ns, _, h, i, v, e => by
    cases h with
    | cons _ u r =>
      cases i with
      | zero => exact ⟨n, .head _, u, (Option.some.inj e).symm⟩
      | succ i => obtain ⟨k, hk, r⟩ := ints_at r i v e; exact ⟨k, .tail _ hk, r⟩
theorem lis_nil : lisS 0 = Str.ofString "?---------" := by rfl
theorem strs4 {ys : List Value} {a b c d : Str} (h : StrsAre ys [a, b, c, d]) : ∃ t1 t2 t3 t4, ys = [.str a t1, .str b t2, .str c t3, .str d t4] := by
  cases h with | cons _ t1 h => cases h with | cons _ t2 h => cases h with | cons _ t3 h => cases h with | cons _ t4 h => cases h; exact ⟨t1, t2, t3, t4, rfl⟩
theorem strs5 {ys : List Value} {e a b c d : Str} (h : StrsAre ys [e, a, b, c, d]) : ∃ t0 t1 t2 t3 t4, ys = [.str e t0, .str a t1, .str b t2, .str c t3, .str d t4] := by
  cases h with | cons _ t0 h => obtain ⟨t1, t2, t3, t4, rfl⟩ := strs4 h; exact ⟨t0, t1, t2, t3, t4, rfl⟩
theorem law_holds : PySem.Challenge.rw_om0013_01.Holds := by
  w_on
  o_law
  refine holds_open (q := view) (loose := loose) (Xt := fun s => xlAt view [] s && recOk (RowW.records rowW) s) (XP := XL view []) (Yf := hook.obs) (Ya := hook.val) (YP := hook.says) (N := 2438) left hook.of hook.keeps (fun s e => xl_of s (Bool.and_eq_true_iff.mp e).1) XL.keeps (by rfl) (by rfl) (by rfl) (fun s e => recFacts_of (Bool.and_eq_true_iff.mp e).2) (by rfl) (by first | assumption | decide +kernel) (by decide +kernel) ⟨rfl, rfl, rfl, rfl, rfl, by decide +kernel⟩ ?hw ?hc
  case hw => w_witness2
  w_top off
  ((have hfill : (fun (_ : OpenLaw) (_ : Params → Frag) => True) PySem.Challenge.rw_om0013_01 KK := (by k_fill; trivial); clear hfill))
  k_go0
  all_goals try k_fold
  rename_i said w s0 s1 mg mb G Y fa o pm doc kV ho hg KX0 X V GL T B TE TW w9 w8 M w7 w6 hcd xs9 hs hlay0 hLa hra hl2 w4 w3 w2 w1 wa hL ra wl r0 hI hr hc1 hc2 K0 hD h1 F N0
  clear said G Y ho X V GL B TE TW M hcd hD
  have K2 : Below callerA s1.heap [] s1.heap := K0
  clear K0
  obtain ⟨p9, l9, T9, hp9⟩ : ∃ p l, Top p l (ExcName.means s0.heap) mg mb s1.heap ∧ importsNone p = true := ⟨_, _, T, by kernel_rfl⟩
  clear T
  refine wpAny_qe fun QA EA hQA => ?_
  repeat walk1
  dsimp only at *
  rename IntsAre _ _ => hI
  rename Fr _ _ _ _ => F0
  rename News _ _ _ _ => N0
  rename Below _ _ _ _ => K0
  have K1 := belowAt F0 K0
  clear K0
  obtain ⟨ns1, hI1⟩ := pick_ints hI none none (some 2)
  refine sumK rfl F0 N0 (News.isList N0 (.head _)) hI1 ?_
  clear F0 N0
  intro h1 tk1 t1 F1 N1
  (repeat' (first | ((k_unfold; (try dsimp only))) | ((first | ((with_reducible show wpAny _ _ (call (Value.ref 209) _ _) _ _ _); (k_dflt (refine' Pure.use (rights_ok2 _ _ _) ?k1 ?k2 ?k3 ?k4 ?k5 ?kK ?kp ?kd ?ku ?_; (case k1 => k_asm); (case k2 => k_asm); (case k3 => k_asm); (case k4 => k_asm); (case k5 => k_asm); (case kK => first | exact rfl | assumption); (case kp => first | trivial | assumption | exact TabAt.keep (by assumption) (Fr.keep (by assumption))); (case kd => ktr_room); (case ku => ktr_units))); ((intro t8 h8 tk8 F8 N8; (((try dsimp only); (try k_fold)))))) | ((with_reducible show wpAny _ _ (call (Value.ref 75) _ _) _ _ _); (k_dflt (refine' Pure.use (filemode_ok _ _ _ (restB_lt _ _)) ?k1 ?k2 ?k3 ?k4 ?k5 ?kK ?kp ?kd ?ku ?_; (case k1 => k_asm); (case k2 => k_asm); (case k3 => k_asm); (case k4 => k_asm); (case k5 => k_asm); (case kK => first | exact rfl | assumption); (case kp => first | trivial | assumption | exact TabAt.keep (by assumption) (Fr.keep (by assumption))); (case kd => ktr_room); (case ku => ktr_units))); ((intro t8 h8 tk8 F8 N8; (((try dsimp only); (try k_fold)))))) | ((with_reducible show wpAny _ _ (call (Value.ref 147) _ _) _ _ _); (k_dflt (refine' Pure.useK (listing_ok2 _ _ _ (restB_lt _ _)) ?k1 ?k2 ?k3 ?k4 ?k5 ?kK ?kp ?kd ?ku ?_; (case k1 => k_asm); (case k2 => k_asm); (case k3 => k_asm); (case k4 => k_asm); (case k5 => k_asm); (case kK => first | exact rfl | assumption); (case kp => first | trivial | assumption | exact TabAt.keep (by assumption) (Fr.keep (by assumption))); (case kd => ktr_room); (case ku => ktr_units))); (intro t8 h8 tk8 kp8 F8 N8; (((try dsimp only); (try k_fold))))) | ((with_reducible show wpAny _ _ (call (Value.ref 164) _ _) _ _ _); (k_dflt (refine' Pure.useK (rest_ok2 _ _ _ (by omega)) ?k1 ?k2 ?k3 ?k4 ?k5 ?kK ?kp ?kd ?ku ?_; (case k1 => k_asm); (case k2 => k_asm); (case k3 => k_asm); (case k4 => k_asm); (case k5 => k_asm); (case kK => first | exact rfl | assumption); (case kp => first | trivial | assumption | exact TabAt.keep (by assumption) (Fr.keep (by assumption))); (case kd => ktr_room); (case ku => ktr_units))); (intro t8 h8 tk8 kp8 F8 N8; (((try dsimp only); (try k_fold))))))) | ((fail_if_success (with_reducible show wpAny _ _ (call (Value.ref 190) _ _) _ _ _)); (fail_if_success (with_reducible show wpAny _ _ (call (Value.ref 197) _ _) _ _ _)); (fail_if_success (with_reducible show wpAny _ _ (call (Value.ref 183) _ _) _ _ _)); (fail_if_success (with_reducible show wpAny _ _ (call (Value.ref 204) _ _) _ _ _)); (fail_if_success (with_reducible show wpAny _ _ (exec (Stmt.Assign _ (Expr.DictComp _ _ _ _ _) _) _) _ _ _)); (((fail_if_success (with_reducible show wpAny _ _ (pyIter _) _ _ _)); (fail_if_success (with_reducible show wpAny _ _ (exec (Stmt.For _ _ _ _ _) _) _ _ _)); (fail_if_success (with_reducible show wpAny _ _ (eval (Expr.ListComp _ _ _ _) _) _ _ _)); (fail_if_success (with_reducible show wpAny _ _ (exec (Stmt.Assign _ (Expr.ListComp _ _ _ _) _) _) _ _ _)); walk1; (try dsimp only)))) | dsimp only))
  rename Fr _ _ _ _ => F2
  rename News _ _ _ _ => N2
  rename Frag.In _ _ => KX
  obtain ⟨M, hMe, hM⟩ : ∃ M : Nat, (18832563052 + ns1.sum).fmod (2 ^ Int.toNat 36) = (M : Int) ∧ M < 68719476736 := by
    have h0 := Int.fmod_nonneg_of_pos (18832563052 + ns1.sum) (b := 2 ^ Int.toNat 36) (by decide)
    have h1 := Int.fmod_lt_of_pos (18832563052 + ns1.sum) (b := 2 ^ Int.toNat 36) (by decide)
    have h2 : (2 : Int) ^ Int.toNat 36 = 68719476736 := by decide
    rw [h2] at h0 h1 ⊢
    exact ⟨((18832563052 + ns1.sum).fmod 68719476736).toNat, by omega, by omega⟩
  rw [hMe] at F2
  clear hI1
  refine dict_asgn (intKind _ _) (fun _ => true) FKs Same F2 rfl (by with_unfolding_all rfl) (by with_unfolding_all rfl) (by decide) (by rfl) (by decide) (by rfl) rfl rfl ?_
  (repeat' (first | ((k_unfold; (try dsimp only))) | ((first | ((with_reducible show wpAny _ _ (call (Value.ref 209) _ _) _ _ _); (k_dflt (refine' Pure.use (rights_ok2 _ _ _) ?k1 ?k2 ?k3 ?k4 ?k5 ?kK ?kp ?kd ?ku ?_; (case k1 => k_asm); (case k2 => k_asm); (case k3 => k_asm); (case k4 => k_asm); (case k5 => k_asm); (case kK => first | exact rfl | assumption); (case kp => first | trivial | assumption | exact TabAt.keep (by assumption) (Fr.keep (by assumption))); (case kd => ktr_room); (case ku => ktr_units))); ((intro t8 h8 tk8 F8 N8; (((try dsimp only); (try k_fold)))))) | ((with_reducible show wpAny _ _ (call (Value.ref 75) _ _) _ _ _); (k_dflt (refine' Pure.use (filemode_ok _ _ _ (restB_lt _ _)) ?k1 ?k2 ?k3 ?k4 ?k5 ?kK ?kp ?kd ?ku ?_; (case k1 => k_asm); (case k2 => k_asm); (case k3 => k_asm); (case k4 => k_asm); (case k5 => k_asm); (case kK => first | exact rfl | assumption); (case kp => first | trivial | assumption | exact TabAt.keep (by assumption) (Fr.keep (by assumption))); (case kd => ktr_room); (case ku => ktr_units))); ((intro t8 h8 tk8 F8 N8; (((try dsimp only); (try k_fold)))))) | ((with_reducible show wpAny _ _ (call (Value.ref 147) _ _) _ _ _); (k_dflt (refine' Pure.useK (listing_ok2 _ _ _ (restB_lt _ _)) ?k1 ?k2 ?k3 ?k4 ?k5 ?kK ?kp ?kd ?ku ?_; (case k1 => k_asm); (case k2 => k_asm); (case k3 => k_asm); (case k4 => k_asm); (case k5 => k_asm); (case kK => first | exact rfl | assumption); (case kp => first | trivial | assumption | exact TabAt.keep (by assumption) (Fr.keep (by assumption))); (case kd => ktr_room); (case ku => ktr_units))); (intro t8 h8 tk8 kp8 F8 N8; (((try dsimp only); (try k_fold))))) | ((with_reducible show wpAny _ _ (call (Value.ref 164) _ _) _ _ _); (k_dflt (refine' Pure.useK (rest_ok2 _ _ _ (by omega)) ?k1 ?k2 ?k3 ?k4 ?k5 ?kK ?kp ?kd ?ku ?_; (case k1 => k_asm); (case k2 => k_asm); (case k3 => k_asm); (case k4 => k_asm); (case k5 => k_asm); (case kK => first | exact rfl | assumption); (case kp => first | trivial | assumption | exact TabAt.keep (by assumption) (Fr.keep (by assumption))); (case kd => ktr_room); (case ku => ktr_units))); (intro t8 h8 tk8 kp8 F8 N8; (((try dsimp only); (try k_fold))))))) | ((fail_if_success (with_reducible show wpAny _ _ (call (Value.ref 190) _ _) _ _ _)); (fail_if_success (with_reducible show wpAny _ _ (call (Value.ref 197) _ _) _ _ _)); (fail_if_success (with_reducible show wpAny _ _ (call (Value.ref 183) _ _) _ _ _)); (fail_if_success (with_reducible show wpAny _ _ (call (Value.ref 204) _ _) _ _ _)); (fail_if_success (with_reducible show wpAny _ _ (exec (Stmt.Assign _ (Expr.DictComp _ _ _ _ _) _) _) _ _ _)); (((fail_if_success (with_reducible show wpAny _ _ (pyIter _) _ _ _)); (fail_if_success (with_reducible show wpAny _ _ (exec (Stmt.For _ _ _ _ _) _) _ _ _)); (fail_if_success (with_reducible show wpAny _ _ (eval (Expr.ListComp _ _ _ _) _) _ _ _)); (fail_if_success (with_reducible show wpAny _ _ (exec (Stmt.Assign _ (Expr.ListComp _ _ _ _) _) _) _ _ _)); walk1; (try dsimp only)))) | dsimp only))
  refine ⟨64, _, _, Src.range rfl (by assumption) (by decide) (by decide), by assumption, by assumption, Nat.le_of_ble_eq_true rfl, ?_, ?_, ?_, ?_⟩
  · intro C m₂ i v s₃ E' hP hc
    exact wpAny_pure ⟨rfl, _, _, rfl, fun _ _ e => e⟩
  · rintro C m₂ i v s₃ E' ⟨hi, t, rfl⟩ - ⟨c1, c2, c3, c4⟩
    (repeat' (first | ((k_unfold; (try dsimp only))) | ((first | ((with_reducible show wpAny _ _ (call (Value.ref 209) _ _) _ _ _); (k_dflt (refine' Pure.use (rights_ok2 _ _ _) ?k1 ?k2 ?k3 ?k4 ?k5 ?kK ?kp ?kd ?ku ?_; (case k1 => k_asm); (case k2 => k_asm); (case k3 => k_asm); (case k4 => k_asm); (case k5 => k_asm); (case kK => first | exact rfl | assumption); (case kp => first | trivial | assumption | exact TabAt.keep (by assumption) (Fr.keep (by assumption))); (case kd => ktr_room); (case ku => ktr_units))); ((intro t8 h8 tk8 F8 N8; (((try dsimp only); (try k_fold)))))) | ((with_reducible show wpAny _ _ (call (Value.ref 75) _ _) _ _ _); (k_dflt (refine' Pure.use (filemode_ok _ _ _ (restB_lt _ _)) ?k1 ?k2 ?k3 ?k4 ?k5 ?kK ?kp ?kd ?ku ?_; (case k1 => k_asm); (case k2 => k_asm); (case k3 => k_asm); (case k4 => k_asm); (case k5 => k_asm); (case kK => first | exact rfl | assumption); (case kp => first | trivial | assumption | exact TabAt.keep (by assumption) (Fr.keep (by assumption))); (case kd => ktr_room); (case ku => ktr_units))); ((intro t8 h8 tk8 F8 N8; (((try dsimp only); (try k_fold)))))) | ((with_reducible show wpAny _ _ (call (Value.ref 147) _ _) _ _ _); (k_dflt (refine' Pure.useK (listing_ok2 _ _ _ (restB_lt _ _)) ?k1 ?k2 ?k3 ?k4 ?k5 ?kK ?kp ?kd ?ku ?_; (case k1 => k_asm); (case k2 => k_asm); (case k3 => k_asm); (case k4 => k_asm); (case k5 => k_asm); (case kK => first | exact rfl | assumption); (case kp => first | trivial | assumption | exact TabAt.keep (by assumption) (Fr.keep (by assumption))); (case kd => ktr_room); (case ku => ktr_units))); (intro t8 h8 tk8 kp8 F8 N8; (((try dsimp only); (try k_fold))))) | ((with_reducible show wpAny _ _ (call (Value.ref 164) _ _) _ _ _); (k_dflt (refine' Pure.useK (rest_ok2 _ _ _ (by omega)) ?k1 ?k2 ?k3 ?k4 ?k5 ?kK ?kp ?kd ?ku ?_; (case k1 => k_asm); (case k2 => k_asm); (case k3 => k_asm); (case k4 => k_asm); (case k5 => k_asm); (case kK => first | exact rfl | assumption); (case kp => first | trivial | assumption | exact TabAt.keep (by assumption) (Fr.keep (by assumption))); (case kd => ktr_room); (case ku => ktr_units))); (intro t8 h8 tk8 kp8 F8 N8; (((try dsimp only); (try k_fold))))))) | ((fail_if_success (with_reducible show wpAny _ _ (call (Value.ref 190) _ _) _ _ _)); (fail_if_success (with_reducible show wpAny _ _ (call (Value.ref 197) _ _) _ _ _)); (fail_if_success (with_reducible show wpAny _ _ (call (Value.ref 183) _ _) _ _ _)); (fail_if_success (with_reducible show wpAny _ _ (call (Value.ref 204) _ _) _ _ _)); (fail_if_success (with_reducible show wpAny _ _ (exec (Stmt.Assign _ (Expr.DictComp _ _ _ _ _) _) _) _ _ _)); (((fail_if_success (with_reducible show wpAny _ _ (pyIter _) _ _ _)); (fail_if_success (with_reducible show wpAny _ _ (exec (Stmt.For _ _ _ _ _) _) _ _ _)); (fail_if_success (with_reducible show wpAny _ _ (eval (Expr.ListComp _ _ _ _) _) _ _ _)); (fail_if_success (with_reducible show wpAny _ _ (exec (Stmt.Assign _ (Expr.ListComp _ _ _ _) _) _) _ _ _)); walk1; (try dsimp only)))) | dsimp only))
    exact ⟨⟨_, intKind_is _ _ _ _, fun j t e => by cases e; rfl⟩, _, _, rfl, fun _ _ e => e⟩
  · rintro C m₂ i v s₃ E' ⟨hi, t, rfl⟩ - ⟨c1, c2, c3, c4⟩
    (repeat' (first | ((k_unfold; (try dsimp only))) | ((first | ((with_reducible show wpAny _ _ (call (Value.ref 209) _ _) _ _ _); (k_dflt (refine' Pure.use (rights_ok2 _ _ _) ?k1 ?k2 ?k3 ?k4 ?k5 ?kK ?kp ?kd ?ku ?_; (case k1 => k_asm); (case k2 => k_asm); (case k3 => k_asm); (case k4 => k_asm); (case k5 => k_asm); (case kK => first | exact rfl | assumption); (case kp => first | trivial | assumption | exact TabAt.keep (by assumption) (Fr.keep (by assumption))); (case kd => ktr_room); (case ku => ktr_units))); ((intro t8 h8 tk8 F8 N8; (((try dsimp only); (try k_fold)))))) | ((with_reducible show wpAny _ _ (call (Value.ref 75) _ _) _ _ _); (k_dflt (refine' Pure.use (filemode_ok _ _ _ (restB_lt _ _)) ?k1 ?k2 ?k3 ?k4 ?k5 ?kK ?kp ?kd ?ku ?_; (case k1 => k_asm); (case k2 => k_asm); (case k3 => k_asm); (case k4 => k_asm); (case k5 => k_asm); (case kK => first | exact rfl | assumption); (case kp => first | trivial | assumption | exact TabAt.keep (by assumption) (Fr.keep (by assumption))); (case kd => ktr_room); (case ku => ktr_units))); ((intro t8 h8 tk8 F8 N8; (((try dsimp only); (try k_fold)))))) | ((with_reducible show wpAny _ _ (call (Value.ref 147) _ _) _ _ _); (k_dflt (refine' Pure.useK (listing_ok2 _ _ _ (restB_lt _ _)) ?k1 ?k2 ?k3 ?k4 ?k5 ?kK ?kp ?kd ?ku ?_; (case k1 => k_asm); (case k2 => k_asm); (case k3 => k_asm); (case k4 => k_asm); (case k5 => k_asm); (case kK => first | exact rfl | assumption); (case kp => first | trivial | assumption | exact TabAt.keep (by assumption) (Fr.keep (by assumption))); (case kd => ktr_room); (case ku => ktr_units))); (intro t8 h8 tk8 kp8 F8 N8; (((try dsimp only); (try k_fold))))) | ((with_reducible show wpAny _ _ (call (Value.ref 164) _ _) _ _ _); (k_dflt (refine' Pure.useK (rest_ok2 _ _ _ (by omega)) ?k1 ?k2 ?k3 ?k4 ?k5 ?kK ?kp ?kd ?ku ?_; (case k1 => k_asm); (case k2 => k_asm); (case k3 => k_asm); (case k4 => k_asm); (case k5 => k_asm); (case kK => first | exact rfl | assumption); (case kp => first | trivial | assumption | exact TabAt.keep (by assumption) (Fr.keep (by assumption))); (case kd => ktr_room); (case ku => ktr_units))); (intro t8 h8 tk8 kp8 F8 N8; (((try dsimp only); (try k_fold))))))) | ((fail_if_success (with_reducible show wpAny _ _ (call (Value.ref 190) _ _) _ _ _)); (fail_if_success (with_reducible show wpAny _ _ (call (Value.ref 197) _ _) _ _ _)); (fail_if_success (with_reducible show wpAny _ _ (call (Value.ref 183) _ _) _ _ _)); (fail_if_success (with_reducible show wpAny _ _ (call (Value.ref 204) _ _) _ _ _)); (fail_if_success (with_reducible show wpAny _ _ (exec (Stmt.Assign _ (Expr.DictComp _ _ _ _ _) _) _) _ _ _)); (((fail_if_success (with_reducible show wpAny _ _ (pyIter _) _ _ _)); (fail_if_success (with_reducible show wpAny _ _ (exec (Stmt.For _ _ _ _ _) _) _ _ _)); (fail_if_success (with_reducible show wpAny _ _ (eval (Expr.ListComp _ _ _ _) _) _ _ _)); (fail_if_success (with_reducible show wpAny _ _ (exec (Stmt.Assign _ (Expr.ListComp _ _ _ _) _) _) _ _ _)); walk1; (try dsimp only)))) | dsimp only))
    exact ⟨rfl, _, _, rfl, fun _ _ e => e⟩
  · intro D oD h2 tk2 kvs vs hlen hP hF hoD F3 N3 hD
    rw [filt_true] at hF
    rename Top _ _ _ _ _ _ => T0
    have hsys := not_sys (T0.seer hp9) (N3 _ (.head _)).2.2
    have htab : ∀ h, Heap.get? h D = some oD → IntTab Pg _ h D figD := fun h ho => fig_tab hF (fun j v hv => by
      obtain ⟨_, t, e⟩ := hP j v hv
      exact ⟨t, by rw [e, Int.zero_add, Int.mul_one]⟩) hlen hsys ho hoD
    clear hF hP hlen hoD
    (repeat' (first | ((k_unfold; (try dsimp only))) | ((first | ((with_reducible show wpAny _ _ (call (Value.ref 209) _ _) _ _ _); (k_dflt (refine' Pure.use (rights_ok2 _ _ _) ?k1 ?k2 ?k3 ?k4 ?k5 ?kK ?kp ?kd ?ku ?_; (case k1 => k_asm); (case k2 => k_asm); (case k3 => k_asm); (case k4 => k_asm); (case k5 => k_asm); (case kK => first | exact rfl | assumption); (case kp => first | trivial | assumption | exact TabAt.keep (by assumption) (Fr.keep (by assumption))); (case kd => ktr_room); (case ku => ktr_units))); ((intro t8 h8 tk8 F8 N8; (((try dsimp only); (try k_fold)))))) | ((with_reducible show wpAny _ _ (call (Value.ref 75) _ _) _ _ _); (k_dflt (refine' Pure.use (filemode_ok _ _ _ (restB_lt _ _)) ?k1 ?k2 ?k3 ?k4 ?k5 ?kK ?kp ?kd ?ku ?_; (case k1 => k_asm); (case k2 => k_asm); (case k3 => k_asm); (case k4 => k_asm); (case k5 => k_asm); (case kK => first | exact rfl | assumption); (case kp => first | trivial | assumption | exact TabAt.keep (by assumption) (Fr.keep (by assumption))); (case kd => ktr_room); (case ku => ktr_units))); ((intro t8 h8 tk8 F8 N8; (((try dsimp only); (try k_fold)))))) | ((with_reducible show wpAny _ _ (call (Value.ref 147) _ _) _ _ _); (k_dflt (refine' Pure.useK (listing_ok2 _ _ _ (restB_lt _ _)) ?k1 ?k2 ?k3 ?k4 ?k5 ?kK ?kp ?kd ?ku ?_; (case k1 => k_asm); (case k2 => k_asm); (case k3 => k_asm); (case k4 => k_asm); (case k5 => k_asm); (case kK => first | exact rfl | assumption); (case kp => first | trivial | assumption | exact TabAt.keep (by assumption) (Fr.keep (by assumption))); (case kd => ktr_room); (case ku => ktr_units))); (intro t8 h8 tk8 kp8 F8 N8; (((try dsimp only); (try k_fold))))) | ((with_reducible show wpAny _ _ (call (Value.ref 164) _ _) _ _ _); (k_dflt (refine' Pure.useK (rest_ok2 _ _ _ (by omega)) ?k1 ?k2 ?k3 ?k4 ?k5 ?kK ?kp ?kd ?ku ?_; (case k1 => k_asm); (case k2 => k_asm); (case k3 => k_asm); (case k4 => k_asm); (case k5 => k_asm); (case kK => first | exact rfl | assumption); (case kp => first | trivial | assumption | exact TabAt.keep (by assumption) (Fr.keep (by assumption))); (case kd => ktr_room); (case ku => ktr_units))); (intro t8 h8 tk8 kp8 F8 N8; (((try dsimp only); (try k_fold))))))) | ((fail_if_success (with_reducible show wpAny _ _ (call (Value.ref 190) _ _) _ _ _)); (fail_if_success (with_reducible show wpAny _ _ (call (Value.ref 197) _ _) _ _ _)); (fail_if_success (with_reducible show wpAny _ _ (call (Value.ref 183) _ _) _ _ _)); (fail_if_success (with_reducible show wpAny _ _ (call (Value.ref 204) _ _) _ _ _)); (fail_if_success (with_reducible show wpAny _ _ (exec (Stmt.Assign _ (Expr.DictComp _ _ _ _ _) _) _) _ _ _)); (((fail_if_success (with_reducible show wpAny _ _ (pyIter _) _ _ _)); (fail_if_success (with_reducible show wpAny _ _ (exec (Stmt.For _ _ _ _ _) _) _ _ _)); (fail_if_success (with_reducible show wpAny _ _ (eval (Expr.ListComp _ _ _ _) _) _ _ _)); (fail_if_success (with_reducible show wpAny _ _ (exec (Stmt.Assign _ (Expr.ListComp _ _ _ _) _) _) _ _ _)); walk1; (try dsimp only)))) | dsimp only))
    k_dflt (refine' Pure.use (written_msg _ M hM _) ?k1 ?k2 ?k3 ?k4 ?k5 ?kK ?kp ?kd ?ku ?_; (case k1 => k_asm); (case k2 => k_asm); (case k3 => k_asm); (case k4 => k_asm); (case k5 => k_asm); (case kK => first | exact rfl | assumption); (case kp => trivial); (case kd => ktr_room); (case ku => ktr_units))
    clear F3 N3
    intro t8 h8 tk8 F8 N8
    dsimp only
    (repeat' (first | ((k_unfold; (try dsimp only))) | ((first | ((with_reducible show wpAny _ _ (call (Value.ref 209) _ _) _ _ _); (k_dflt (refine' Pure.use (rights_ok2 _ _ _) ?k1 ?k2 ?k3 ?k4 ?k5 ?kK ?kp ?kd ?ku ?_; (case k1 => k_asm); (case k2 => k_asm); (case k3 => k_asm); (case k4 => k_asm); (case k5 => k_asm); (case kK => first | exact rfl | assumption); (case kp => first | trivial | assumption | exact TabAt.keep (by assumption) (Fr.keep (by assumption))); (case kd => ktr_room); (case ku => ktr_units))); ((intro t8 h8 tk8 F8 N8; (((try dsimp only); (try k_fold)))))) | ((with_reducible show wpAny _ _ (call (Value.ref 75) _ _) _ _ _); (k_dflt (refine' Pure.use (filemode_ok _ _ _ (restB_lt _ _)) ?k1 ?k2 ?k3 ?k4 ?k5 ?kK ?kp ?kd ?ku ?_; (case k1 => k_asm); (case k2 => k_asm); (case k3 => k_asm); (case k4 => k_asm); (case k5 => k_asm); (case kK => first | exact rfl | assumption); (case kp => first | trivial | assumption | exact TabAt.keep (by assumption) (Fr.keep (by assumption))); (case kd => ktr_room); (case ku => ktr_units))); ((intro t8 h8 tk8 F8 N8; (((try dsimp only); (try k_fold)))))) | ((with_reducible show wpAny _ _ (call (Value.ref 147) _ _) _ _ _); (k_dflt (refine' Pure.useK (listing_ok2 _ _ _ (restB_lt _ _)) ?k1 ?k2 ?k3 ?k4 ?k5 ?kK ?kp ?kd ?ku ?_; (case k1 => k_asm); (case k2 => k_asm); (case k3 => k_asm); (case k4 => k_asm); (case k5 => k_asm); (case kK => first | exact rfl | assumption); (case kp => first | trivial | assumption | exact TabAt.keep (by assumption) (Fr.keep (by assumption))); (case kd => ktr_room); (case ku => ktr_units))); (intro t8 h8 tk8 kp8 F8 N8; (((try dsimp only); (try k_fold))))) | ((with_reducible show wpAny _ _ (call (Value.ref 164) _ _) _ _ _); (k_dflt (refine' Pure.useK (rest_ok2 _ _ _ (by omega)) ?k1 ?k2 ?k3 ?k4 ?k5 ?kK ?kp ?kd ?ku ?_; (case k1 => k_asm); (case k2 => k_asm); (case k3 => k_asm); (case k4 => k_asm); (case k5 => k_asm); (case kK => first | exact rfl | assumption); (case kp => first | trivial | assumption | exact TabAt.keep (by assumption) (Fr.keep (by assumption))); (case kd => ktr_room); (case ku => ktr_units))); (intro t8 h8 tk8 kp8 F8 N8; (((try dsimp only); (try k_fold))))))) | ((fail_if_success (with_reducible show wpAny _ _ (call (Value.ref 190) _ _) _ _ _)); (fail_if_success (with_reducible show wpAny _ _ (call (Value.ref 197) _ _) _ _ _)); (fail_if_success (with_reducible show wpAny _ _ (call (Value.ref 183) _ _) _ _ _)); (fail_if_success (with_reducible show wpAny _ _ (call (Value.ref 204) _ _) _ _ _)); (fail_if_success (with_reducible show wpAny _ _ (exec (Stmt.Assign _ (Expr.DictComp _ _ _ _ _) _) _) _ _ _)); (((fail_if_success (with_reducible show wpAny _ _ (pyIter _) _ _ _)); (fail_if_success (with_reducible show wpAny _ _ (exec (Stmt.For _ _ _ _ _) _) _ _ _)); (fail_if_success (with_reducible show wpAny _ _ (eval (Expr.ListComp _ _ _ _) _) _ _ _)); (fail_if_success (with_reducible show wpAny _ _ (exec (Stmt.Assign _ (Expr.ListComp _ _ _ _) _) _) _ _ _)); walk1; (try dsimp only)))) | dsimp only))
    rename Fr _ _ _ _ => F4
    rename News _ _ _ _ => N4
    refine' slice_txt F4 N4 ?_ (by with_unfolding_all rfl) (by intro _; with_unfolding_all rfl)
    intro h5 t5 k5 F5 N5
    clear F4 N4
    (repeat' (first | ((k_unfold; (try dsimp only))) | ((first | ((with_reducible show wpAny _ _ (call (Value.ref 209) _ _) _ _ _); (k_dflt (refine' Pure.use (rights_ok2 _ _ _) ?k1 ?k2 ?k3 ?k4 ?k5 ?kK ?kp ?kd ?ku ?_; (case k1 => k_asm); (case k2 => k_asm); (case k3 => k_asm); (case k4 => k_asm); (case k5 => k_asm); (case kK => first | exact rfl | assumption); (case kp => first | trivial | assumption | exact TabAt.keep (by assumption) (Fr.keep (by assumption))); (case kd => ktr_room); (case ku => ktr_units))); ((intro t8 h8 tk8 F8 N8; (((try dsimp only); (try k_fold)))))) | ((with_reducible show wpAny _ _ (call (Value.ref 75) _ _) _ _ _); (k_dflt (refine' Pure.use (filemode_ok _ _ _ (restB_lt _ _)) ?k1 ?k2 ?k3 ?k4 ?k5 ?kK ?kp ?kd ?ku ?_; (case k1 => k_asm); (case k2 => k_asm); (case k3 => k_asm); (case k4 => k_asm); (case k5 => k_asm); (case kK => first | exact rfl | assumption); (case kp => first | trivial | assumption | exact TabAt.keep (by assumption) (Fr.keep (by assumption))); (case kd => ktr_room); (case ku => ktr_units))); ((intro t8 h8 tk8 F8 N8; (((try dsimp only); (try k_fold)))))) | ((with_reducible show wpAny _ _ (call (Value.ref 147) _ _) _ _ _); (k_dflt (refine' Pure.useK (listing_ok2 _ _ _ (restB_lt _ _)) ?k1 ?k2 ?k3 ?k4 ?k5 ?kK ?kp ?kd ?ku ?_; (case k1 => k_asm); (case k2 => k_asm); (case k3 => k_asm); (case k4 => k_asm); (case k5 => k_asm); (case kK => first | exact rfl | assumption); (case kp => first | trivial | assumption | exact TabAt.keep (by assumption) (Fr.keep (by assumption))); (case kd => ktr_room); (case ku => ktr_units))); (intro t8 h8 tk8 kp8 F8 N8; (((try dsimp only); (try k_fold))))) | ((with_reducible show wpAny _ _ (call (Value.ref 164) _ _) _ _ _); (k_dflt (refine' Pure.useK (rest_ok2 _ _ _ (by omega)) ?k1 ?k2 ?k3 ?k4 ?k5 ?kK ?kp ?kd ?ku ?_; (case k1 => k_asm); (case k2 => k_asm); (case k3 => k_asm); (case k4 => k_asm); (case k5 => k_asm); (case kK => first | exact rfl | assumption); (case kp => first | trivial | assumption | exact TabAt.keep (by assumption) (Fr.keep (by assumption))); (case kd => ktr_room); (case ku => ktr_units))); (intro t8 h8 tk8 kp8 F8 N8; (((try dsimp only); (try k_fold))))))) | ((fail_if_success (with_reducible show wpAny _ _ (call (Value.ref 190) _ _) _ _ _)); (fail_if_success (with_reducible show wpAny _ _ (call (Value.ref 197) _ _) _ _ _)); (fail_if_success (with_reducible show wpAny _ _ (call (Value.ref 183) _ _) _ _ _)); (fail_if_success (with_reducible show wpAny _ _ (call (Value.ref 204) _ _) _ _ _)); (fail_if_success (with_reducible show wpAny _ _ (exec (Stmt.Assign _ (Expr.DictComp _ _ _ _ _) _) _) _ _ _)); (((fail_if_success (with_reducible show wpAny _ _ (pyIter _) _ _ _)); (fail_if_success (with_reducible show wpAny _ _ (exec (Stmt.For _ _ _ _ _) _) _ _ _)); (fail_if_success (with_reducible show wpAny _ _ (eval (Expr.ListComp _ _ _ _) _) _ _ _)); (fail_if_success (with_reducible show wpAny _ _ (exec (Stmt.Assign _ (Expr.ListComp _ _ _ _) _) _) _ _ _)); walk1; (try dsimp only)))) | dsimp only))
    k_dflt (refine' Pure.use (run_seal _ D M hM _) ?k1 ?k2 ?k3 ?k4 ?k5 ?kK ?kp ?kd ?ku ?_; (case k1 => k_asm); (case k2 => k_asm); (case k3 => k_asm); (case k4 => k_asm); (case k5 => k_asm); (case kK => first | exact rfl | assumption); (case kp => exact htab _ (N5 (D, oD) (by k_mem)).1); (case kd => ktr_room); (case ku => ktr_units))
    clear F5 N5
    intro t6 h6 tk6 F6 N6
    dsimp only
    (repeat' (first | ((k_unfold; (try dsimp only))) | ((first | ((with_reducible show wpAny _ _ (call (Value.ref 209) _ _) _ _ _); (k_dflt (refine' Pure.use (rights_ok2 _ _ _) ?k1 ?k2 ?k3 ?k4 ?k5 ?kK ?kp ?kd ?ku ?_; (case k1 => k_asm); (case k2 => k_asm); (case k3 => k_asm); (case k4 => k_asm); (case k5 => k_asm); (case kK => first | exact rfl | assumption); (case kp => first | trivial | assumption | exact TabAt.keep (by assumption) (Fr.keep (by assumption))); (case kd => ktr_room); (case ku => ktr_units))); ((intro t8 h8 tk8 F8 N8; (((try dsimp only); (try k_fold)))))) | ((with_reducible show wpAny _ _ (call (Value.ref 75) _ _) _ _ _); (k_dflt (refine' Pure.use (filemode_ok _ _ _ (restB_lt _ _)) ?k1 ?k2 ?k3 ?k4 ?k5 ?kK ?kp ?kd ?ku ?_; (case k1 => k_asm); (case k2 => k_asm); (case k3 => k_asm); (case k4 => k_asm); (case k5 => k_asm); (case kK => first | exact rfl | assumption); (case kp => first | trivial | assumption | exact TabAt.keep (by assumption) (Fr.keep (by assumption))); (case kd => ktr_room); (case ku => ktr_units))); ((intro t8 h8 tk8 F8 N8; (((try dsimp only); (try k_fold)))))) | ((with_reducible show wpAny _ _ (call (Value.ref 147) _ _) _ _ _); (k_dflt (refine' Pure.useK (listing_ok2 _ _ _ (restB_lt _ _)) ?k1 ?k2 ?k3 ?k4 ?k5 ?kK ?kp ?kd ?ku ?_; (case k1 => k_asm); (case k2 => k_asm); (case k3 => k_asm); (case k4 => k_asm); (case k5 => k_asm); (case kK => first | exact rfl | assumption); (case kp => first | trivial | assumption | exact TabAt.keep (by assumption) (Fr.keep (by assumption))); (case kd => ktr_room); (case ku => ktr_units))); (intro t8 h8 tk8 kp8 F8 N8; (((try dsimp only); (try k_fold))))) | ((with_reducible show wpAny _ _ (call (Value.ref 164) _ _) _ _ _); (k_dflt (refine' Pure.useK (rest_ok2 _ _ _ (by omega)) ?k1 ?k2 ?k3 ?k4 ?k5 ?kK ?kp ?kd ?ku ?_; (case k1 => k_asm); (case k2 => k_asm); (case k3 => k_asm); (case k4 => k_asm); (case k5 => k_asm); (case kK => first | exact rfl | assumption); (case kp => first | trivial | assumption | exact TabAt.keep (by assumption) (Fr.keep (by assumption))); (case kd => ktr_room); (case ku => ktr_units))); (intro t8 h8 tk8 kp8 F8 N8; (((try dsimp only); (try k_fold))))))) | ((fail_if_success (with_reducible show wpAny _ _ (call (Value.ref 190) _ _) _ _ _)); (fail_if_success (with_reducible show wpAny _ _ (call (Value.ref 197) _ _) _ _ _)); (fail_if_success (with_reducible show wpAny _ _ (call (Value.ref 183) _ _) _ _ _)); (fail_if_success (with_reducible show wpAny _ _ (call (Value.ref 204) _ _) _ _ _)); (fail_if_success (with_reducible show wpAny _ _ (exec (Stmt.Assign _ (Expr.DictComp _ _ _ _ _) _) _) _ _ _)); (((fail_if_success (with_reducible show wpAny _ _ (pyIter _) _ _ _)); (fail_if_success (with_reducible show wpAny _ _ (exec (Stmt.For _ _ _ _ _) _) _ _ _)); (fail_if_success (with_reducible show wpAny _ _ (eval (Expr.ListComp _ _ _ _) _) _ _ _)); (fail_if_success (with_reducible show wpAny _ _ (exec (Stmt.Assign _ (Expr.ListComp _ _ _ _) _) _) _ _ _)); walk1; (try dsimp only)))) | dsimp only))
    · exfalso; rename _ ≠ (8 : Int) => hne; exact hne rfl
    · exfalso; rename (_ != _) = true => hne; simp at hne
    · exfalso; rename _ ≠ _ + _ => hne; exact hne (by rw [seal_or]; omega)
    rename Fr _ _ _ _ => F9
    rename News _ _ _ _ => N9
    rw [seal_or] at F9
    k_dflt (refine' PureL.use (damages_ok _ (M : Int) _ _ _ (by omega) (by omega)) ?k1 ?k2 ?k3 ?k4 ?k5 ?kK ?kp ?kd ?ku ?_; (case k1 => k_asm); (case k2 => k_asm); (case k3 => k_asm); (case k4 => k_asm); (case k5 => k_asm); (case kK => first | exact rfl | assumption); (case kp => trivial); (case kd => ktr_room); (case ku => ktr_units))
    clear F9 N9
    intro D2 ys c2 h9 tk9 hys hne9 F9 N9
    obtain ⟨n1, n2, n3, n4, hyI, hlt, hr1, hr2, hr3, hr4⟩ := dmg_ints hM hys
    clear hys
    dsimp only
    (repeat' (first | ((k_unfold; (try dsimp only))) | ((first | ((with_reducible show wpAny _ _ (call (Value.ref 209) _ _) _ _ _); (k_dflt (refine' Pure.use (rights_ok2 _ _ _) ?k1 ?k2 ?k3 ?k4 ?k5 ?kK ?kp ?kd ?ku ?_; (case k1 => k_asm); (case k2 => k_asm); (case k3 => k_asm); (case k4 => k_asm); (case k5 => k_asm); (case kK => first | exact rfl | assumption); (case kp => first | trivial | assumption | exact TabAt.keep (by assumption) (Fr.keep (by assumption))); (case kd => ktr_room); (case ku => ktr_units))); ((intro t8 h8 tk8 F8 N8; (((try dsimp only); (try k_fold)))))) | ((with_reducible show wpAny _ _ (call (Value.ref 75) _ _) _ _ _); (k_dflt (refine' Pure.use (filemode_ok _ _ _ (restB_lt _ _)) ?k1 ?k2 ?k3 ?k4 ?k5 ?kK ?kp ?kd ?ku ?_; (case k1 => k_asm); (case k2 => k_asm); (case k3 => k_asm); (case k4 => k_asm); (case k5 => k_asm); (case kK => first | exact rfl | assumption); (case kp => first | trivial | assumption | exact TabAt.keep (by assumption) (Fr.keep (by assumption))); (case kd => ktr_room); (case ku => ktr_units))); ((intro t8 h8 tk8 F8 N8; (((try dsimp only); (try k_fold)))))) | ((with_reducible show wpAny _ _ (call (Value.ref 147) _ _) _ _ _); (k_dflt (refine' Pure.useK (listing_ok2 _ _ _ (restB_lt _ _)) ?k1 ?k2 ?k3 ?k4 ?k5 ?kK ?kp ?kd ?ku ?_; (case k1 => k_asm); (case k2 => k_asm); (case k3 => k_asm); (case k4 => k_asm); (case k5 => k_asm); (case kK => first | exact rfl | assumption); (case kp => first | trivial | assumption | exact TabAt.keep (by assumption) (Fr.keep (by assumption))); (case kd => ktr_room); (case ku => ktr_units))); (intro t8 h8 tk8 kp8 F8 N8; (((try dsimp only); (try k_fold))))) | ((with_reducible show wpAny _ _ (call (Value.ref 164) _ _) _ _ _); (k_dflt (refine' Pure.useK (rest_ok2 _ _ _ (by omega)) ?k1 ?k2 ?k3 ?k4 ?k5 ?kK ?kp ?kd ?ku ?_; (case k1 => k_asm); (case k2 => k_asm); (case k3 => k_asm); (case k4 => k_asm); (case k5 => k_asm); (case kK => first | exact rfl | assumption); (case kp => first | trivial | assumption | exact TabAt.keep (by assumption) (Fr.keep (by assumption))); (case kd => ktr_room); (case ku => ktr_units))); (intro t8 h8 tk8 kp8 F8 N8; (((try dsimp only); (try k_fold))))))) | ((fail_if_success (with_reducible show wpAny _ _ (call (Value.ref 190) _ _) _ _ _)); (fail_if_success (with_reducible show wpAny _ _ (call (Value.ref 197) _ _) _ _ _)); (fail_if_success (with_reducible show wpAny _ _ (call (Value.ref 183) _ _) _ _ _)); (fail_if_success (with_reducible show wpAny _ _ (call (Value.ref 204) _ _) _ _ _)); (fail_if_success (with_reducible show wpAny _ _ (exec (Stmt.Assign _ (Expr.DictComp _ _ _ _ _) _) _) _ _ _)); (((fail_if_success (with_reducible show wpAny _ _ (pyIter _) _ _ _)); (fail_if_success (with_reducible show wpAny _ _ (exec (Stmt.For _ _ _ _ _) _) _ _ _)); (fail_if_success (with_reducible show wpAny _ _ (eval (Expr.ListComp _ _ _ _) _) _ _ _)); (fail_if_success (with_reducible show wpAny _ _ (exec (Stmt.Assign _ (Expr.ListComp _ _ _ _) _) _) _ _ _)); walk1; (try dsimp only)))) | dsimp only))
    rename Fr _ _ _ _ => F9
    rename News _ _ _ _ => N9
    rename IntsAre _ ([0] ++ _) => hwI
    have hSd : M * 4096 + restB 48 M < 281474976710656 := by have := restB_lt 48 M; omega
    k_dflt (refine' PureL.use (shown_ok _ D _ (M * 4096 + restB 48 M) _ _ [0, n1, n2, n3, n4] hSd (by exact hwI) hlt (Nat.le_of_ble_eq_true rfl)) ?k1 ?k2 ?k3 ?k4 ?k5 ?kK ?kp ?kd ?ku ?_; (case k1 => k_asm); (case k2 => k_asm); (case k3 => k_asm); (case k4 => k_asm); (case k5 => k_asm); (case kK => first | exact rfl | assumption); (case kp => exact ⟨htab _ (N9 (D, oD) (by k_mem)).1, News.isList N9 (by k_mem)⟩); (case kd => ktr_room); (case ku => ktr_units))
    clear F9 N9
    intro D3 ys3 c3 h10 tk10 hy3 hne10 F10 N10
    replace hy3 := shown_eq hM hy3
    simp only [List.map_cons, List.map_nil, restB_zero, hr4, lis_nil] at hy3
    obtain ⟨t30, t31, t32, t33, t34, rfl⟩ := strs5 hy3
    clear hy3
    dsimp only
    (repeat' (first | ((k_unfold; (try dsimp only))) | ((first | ((with_reducible show wpAny _ _ (call (Value.ref 209) _ _) _ _ _); (k_dflt (refine' Pure.use (rights_ok2 _ _ _) ?k1 ?k2 ?k3 ?k4 ?k5 ?kK ?kp ?kd ?ku ?_; (case k1 => k_asm); (case k2 => k_asm); (case k3 => k_asm); (case k4 => k_asm); (case k5 => k_asm); (case kK => first | exact rfl | assumption); (case kp => first | trivial | assumption | exact TabAt.keep (by assumption) (Fr.keep (by assumption))); (case kd => ktr_room); (case ku => ktr_units))); ((intro t8 h8 tk8 F8 N8; (((try dsimp only); (try k_fold)))))) | ((with_reducible show wpAny _ _ (call (Value.ref 75) _ _) _ _ _); (k_dflt (refine' Pure.use (filemode_ok _ _ _ (restB_lt _ _)) ?k1 ?k2 ?k3 ?k4 ?k5 ?kK ?kp ?kd ?ku ?_; (case k1 => k_asm); (case k2 => k_asm); (case k3 => k_asm); (case k4 => k_asm); (case k5 => k_asm); (case kK => first | exact rfl | assumption); (case kp => first | trivial | assumption | exact TabAt.keep (by assumption) (Fr.keep (by assumption))); (case kd => ktr_room); (case ku => ktr_units))); ((intro t8 h8 tk8 F8 N8; (((try dsimp only); (try k_fold)))))) | ((with_reducible show wpAny _ _ (call (Value.ref 147) _ _) _ _ _); (k_dflt (refine' Pure.useK (listing_ok2 _ _ _ (restB_lt _ _)) ?k1 ?k2 ?k3 ?k4 ?k5 ?kK ?kp ?kd ?ku ?_; (case k1 => k_asm); (case k2 => k_asm); (case k3 => k_asm); (case k4 => k_asm); (case k5 => k_asm); (case kK => first | exact rfl | assumption); (case kp => first | trivial | assumption | exact TabAt.keep (by assumption) (Fr.keep (by assumption))); (case kd => ktr_room); (case ku => ktr_units))); (intro t8 h8 tk8 kp8 F8 N8; (((try dsimp only); (try k_fold))))) | ((with_reducible show wpAny _ _ (call (Value.ref 164) _ _) _ _ _); (k_dflt (refine' Pure.useK (rest_ok2 _ _ _ (by omega)) ?k1 ?k2 ?k3 ?k4 ?k5 ?kK ?kp ?kd ?ku ?_; (case k1 => k_asm); (case k2 => k_asm); (case k3 => k_asm); (case k4 => k_asm); (case k5 => k_asm); (case kK => first | exact rfl | assumption); (case kp => first | trivial | assumption | exact TabAt.keep (by assumption) (Fr.keep (by assumption))); (case kd => ktr_room); (case ku => ktr_units))); (intro t8 h8 tk8 kp8 F8 N8; (((try dsimp only); (try k_fold))))))) | ((fail_if_success (with_reducible show wpAny _ _ (call (Value.ref 190) _ _) _ _ _)); (fail_if_success (with_reducible show wpAny _ _ (call (Value.ref 197) _ _) _ _ _)); (fail_if_success (with_reducible show wpAny _ _ (call (Value.ref 183) _ _) _ _ _)); (fail_if_success (with_reducible show wpAny _ _ (call (Value.ref 204) _ _) _ _ _)); (fail_if_success (with_reducible show wpAny _ _ (exec (Stmt.Assign _ (Expr.DictComp _ _ _ _ _) _) _) _ _ _)); (((fail_if_success (with_reducible show wpAny _ _ (pyIter _) _ _ _)); (fail_if_success (with_reducible show wpAny _ _ (exec (Stmt.For _ _ _ _ _) _) _ _ _)); (fail_if_success (with_reducible show wpAny _ _ (eval (Expr.ListComp _ _ _ _) _) _ _ _)); (fail_if_success (with_reducible show wpAny _ _ (exec (Stmt.Assign _ (Expr.ListComp _ _ _ _) _) _) _ _ _)); walk1; (try dsimp only)))) | dsimp only))
    refine comp_gen (fun _ => true) LisEl (by assumption) (by with_unfolding_all rfl) (by decide) (by rfl) (by decide) (by rfl) ?_
    (repeat' (first | ((k_unfold; (try dsimp only))) | ((first | ((with_reducible show wpAny _ _ (call (Value.ref 209) _ _) _ _ _); (k_dflt (refine' Pure.use (rights_ok2 _ _ _) ?k1 ?k2 ?k3 ?k4 ?k5 ?kK ?kp ?kd ?ku ?_; (case k1 => k_asm); (case k2 => k_asm); (case k3 => k_asm); (case k4 => k_asm); (case k5 => k_asm); (case kK => first | exact rfl | assumption); (case kp => first | trivial | assumption | exact TabAt.keep (by assumption) (Fr.keep (by assumption))); (case kd => ktr_room); (case ku => ktr_units))); ((intro t8 h8 tk8 F8 N8; (((try dsimp only); (try k_fold)))))) | ((with_reducible show wpAny _ _ (call (Value.ref 75) _ _) _ _ _); (k_dflt (refine' Pure.use (filemode_ok _ _ _ (restB_lt _ _)) ?k1 ?k2 ?k3 ?k4 ?k5 ?kK ?kp ?kd ?ku ?_; (case k1 => k_asm); (case k2 => k_asm); (case k3 => k_asm); (case k4 => k_asm); (case k5 => k_asm); (case kK => first | exact rfl | assumption); (case kp => first | trivial | assumption | exact TabAt.keep (by assumption) (Fr.keep (by assumption))); (case kd => ktr_room); (case ku => ktr_units))); ((intro t8 h8 tk8 F8 N8; (((try dsimp only); (try k_fold)))))) | ((with_reducible show wpAny _ _ (call (Value.ref 147) _ _) _ _ _); (k_dflt (refine' Pure.useK (listing_ok2 _ _ _ (restB_lt _ _)) ?k1 ?k2 ?k3 ?k4 ?k5 ?kK ?kp ?kd ?ku ?_; (case k1 => k_asm); (case k2 => k_asm); (case k3 => k_asm); (case k4 => k_asm); (case k5 => k_asm); (case kK => first | exact rfl | assumption); (case kp => first | trivial | assumption | exact TabAt.keep (by assumption) (Fr.keep (by assumption))); (case kd => ktr_room); (case ku => ktr_units))); (intro t8 h8 tk8 kp8 F8 N8; (((try dsimp only); (try k_fold))))) | ((with_reducible show wpAny _ _ (call (Value.ref 164) _ _) _ _ _); (k_dflt (refine' Pure.useK (rest_ok2 _ _ _ (by omega)) ?k1 ?k2 ?k3 ?k4 ?k5 ?kK ?kp ?kd ?ku ?_; (case k1 => k_asm); (case k2 => k_asm); (case k3 => k_asm); (case k4 => k_asm); (case k5 => k_asm); (case kK => first | exact rfl | assumption); (case kp => first | trivial | assumption | exact TabAt.keep (by assumption) (Fr.keep (by assumption))); (case kd => ktr_room); (case ku => ktr_units))); (intro t8 h8 tk8 kp8 F8 N8; (((try dsimp only); (try k_fold))))))) | ((fail_if_success (with_reducible show wpAny _ _ (call (Value.ref 190) _ _) _ _ _)); (fail_if_success (with_reducible show wpAny _ _ (call (Value.ref 197) _ _) _ _ _)); (fail_if_success (with_reducible show wpAny _ _ (call (Value.ref 183) _ _) _ _ _)); (fail_if_success (with_reducible show wpAny _ _ (call (Value.ref 204) _ _) _ _ _)); (fail_if_success (with_reducible show wpAny _ _ (exec (Stmt.Assign _ (Expr.DictComp _ _ _ _ _) _) _) _ _ _)); (((fail_if_success (with_reducible show wpAny _ _ (pyIter _) _ _ _)); (fail_if_success (with_reducible show wpAny _ _ (exec (Stmt.For _ _ _ _ _) _) _ _ _)); (fail_if_success (with_reducible show wpAny _ _ (eval (Expr.ListComp _ _ _ _) _) _ _ _)); (fail_if_success (with_reducible show wpAny _ _ (exec (Stmt.Assign _ (Expr.ListComp _ _ _ _) _) _) _ _ _)); walk1; (try dsimp only)))) | dsimp only))
    have hyl : ys.length = 4 := IntsAre.length hyI
    refine ⟨_, _, _, Src.list (by rfl) (News.isList (by assumption) (by k_mem)), by assumption, by assumption, ?_, ?_, ?_, ?_⟩
    · rw [sizeLine_eq, List.size_toArray, hyl]; decide
    · intro C oC m₂ i v s₃ E' hP hc
      exact wpAny_pure ⟨rfl, _, _, rfl, fun _ _ e => e⟩
    · rintro C oC m₂ i v s₃ E' hv - ⟨c1, c2, c3, c4⟩
      obtain ⟨n, hn, t, rfl⟩ := ints_at hyI i v (by simpa using hv)
      have hnl : n < 281474976710656 := hlt n (.tail _ hn)
      (repeat' (first | ((k_unfold; (try dsimp only))) | ((first | ((with_reducible show wpAny _ _ (call (Value.ref 209) _ _) _ _ _); (k_dflt (refine' Pure.use (rights_ok2 _ _ _) ?k1 ?k2 ?k3 ?k4 ?k5 ?kK ?kp ?kd ?ku ?_; (case k1 => k_asm); (case k2 => k_asm); (case k3 => k_asm); (case k4 => k_asm); (case k5 => k_asm); (case kK => first | exact rfl | assumption); (case kp => first | trivial | assumption | exact TabAt.keep (by assumption) (Fr.keep (by assumption))); (case kd => ktr_room); (case ku => ktr_units))); ((intro t8 h8 tk8 F8 N8; (((try dsimp only); (try k_fold)))))) | ((with_reducible show wpAny _ _ (call (Value.ref 75) _ _) _ _ _); (k_dflt (refine' Pure.use (filemode_ok _ _ _ (restB_lt _ _)) ?k1 ?k2 ?k3 ?k4 ?k5 ?kK ?kp ?kd ?ku ?_; (case k1 => k_asm); (case k2 => k_asm); (case k3 => k_asm); (case k4 => k_asm); (case k5 => k_asm); (case kK => first | exact rfl | assumption); (case kp => first | trivial | assumption | exact TabAt.keep (by assumption) (Fr.keep (by assumption))); (case kd => ktr_room); (case ku => ktr_units))); ((intro t8 h8 tk8 F8 N8; (((try dsimp only); (try k_fold)))))) | ((with_reducible show wpAny _ _ (call (Value.ref 147) _ _) _ _ _); (k_dflt (refine' Pure.useK (listing_ok2 _ _ _ (restB_lt _ _)) ?k1 ?k2 ?k3 ?k4 ?k5 ?kK ?kp ?kd ?ku ?_; (case k1 => k_asm); (case k2 => k_asm); (case k3 => k_asm); (case k4 => k_asm); (case k5 => k_asm); (case kK => first | exact rfl | assumption); (case kp => first | trivial | assumption | exact TabAt.keep (by assumption) (Fr.keep (by assumption))); (case kd => ktr_room); (case ku => ktr_units))); (intro t8 h8 tk8 kp8 F8 N8; (((try dsimp only); (try k_fold))))) | ((with_reducible show wpAny _ _ (call (Value.ref 164) _ _) _ _ _); (k_dflt (refine' Pure.useK (rest_ok2 _ _ _ (by omega)) ?k1 ?k2 ?k3 ?k4 ?k5 ?kK ?kp ?kd ?ku ?_; (case k1 => k_asm); (case k2 => k_asm); (case k3 => k_asm); (case k4 => k_asm); (case k5 => k_asm); (case kK => first | exact rfl | assumption); (case kp => first | trivial | assumption | exact TabAt.keep (by assumption) (Fr.keep (by assumption))); (case kd => ktr_room); (case ku => ktr_units))); (intro t8 h8 tk8 kp8 F8 N8; (((try dsimp only); (try k_fold))))))) | ((fail_if_success (with_reducible show wpAny _ _ (call (Value.ref 190) _ _) _ _ _)); (fail_if_success (with_reducible show wpAny _ _ (call (Value.ref 197) _ _) _ _ _)); (fail_if_success (with_reducible show wpAny _ _ (call (Value.ref 183) _ _) _ _ _)); (fail_if_success (with_reducible show wpAny _ _ (call (Value.ref 204) _ _) _ _ _)); (fail_if_success (with_reducible show wpAny _ _ (exec (Stmt.Assign _ (Expr.DictComp _ _ _ _ _) _) _) _ _ _)); (((fail_if_success (with_reducible show wpAny _ _ (pyIter _) _ _ _)); (fail_if_success (with_reducible show wpAny _ _ (exec (Stmt.For _ _ _ _ _) _) _ _ _)); (fail_if_success (with_reducible show wpAny _ _ (eval (Expr.ListComp _ _ _ _) _) _ _ _)); (fail_if_success (with_reducible show wpAny _ _ (exec (Stmt.Assign _ (Expr.ListComp _ _ _ _) _) _) _ _ _)); walk1; (try dsimp only)))) | dsimp only))
      rename Kp (Shared.heap s₃) _ => kpA
      rename Kp _ _ => kpB
      exact ⟨⟨_, _, _, rfl, rfl⟩, _, _, rfl, fun b o e => kpB b o (kpA b o e)⟩
    · intro D4 h11 tk11 k4 zs vs4 hlen4 hP4 hF4 F11 N11 hD4
      have e1 : vs4 = ys := list_of_at (by simpa using hlen4) hP4
      subst e1
      rw [filt_true] at hF4
      have hz4 := lis_els hyI hF4
      simp only [List.map_cons, List.map_nil, hr4, lis_nil] at hz4
      obtain ⟨t41, t42, t43, t44, rfl⟩ := strs4 hz4
      clear hF4 hP4 hz4
      (repeat' (first | ((k_unfold; (try dsimp only))) | ((first | ((with_reducible show wpAny _ _ (call (Value.ref 209) _ _) _ _ _); (k_dflt (refine' Pure.use (rights_ok2 _ _ _) ?k1 ?k2 ?k3 ?k4 ?k5 ?kK ?kp ?kd ?ku ?_; (case k1 => k_asm); (case k2 => k_asm); (case k3 => k_asm); (case k4 => k_asm); (case k5 => k_asm); (case kK => first | exact rfl | assumption); (case kp => first | trivial | assumption | exact TabAt.keep (by assumption) (Fr.keep (by assumption))); (case kd => ktr_room); (case ku => ktr_units))); ((intro t8 h8 tk8 F8 N8; (((try dsimp only); (try k_fold)))))) | ((with_reducible show wpAny _ _ (call (Value.ref 75) _ _) _ _ _); (k_dflt (refine' Pure.use (filemode_ok _ _ _ (restB_lt _ _)) ?k1 ?k2 ?k3 ?k4 ?k5 ?kK ?kp ?kd ?ku ?_; (case k1 => k_asm); (case k2 => k_asm); (case k3 => k_asm); (case k4 => k_asm); (case k5 => k_asm); (case kK => first | exact rfl | assumption); (case kp => first | trivial | assumption | exact TabAt.keep (by assumption) (Fr.keep (by assumption))); (case kd => ktr_room); (case ku => ktr_units))); ((intro t8 h8 tk8 F8 N8; (((try dsimp only); (try k_fold)))))) | ((with_reducible show wpAny _ _ (call (Value.ref 147) _ _) _ _ _); (k_dflt (refine' Pure.useK (listing_ok2 _ _ _ (restB_lt _ _)) ?k1 ?k2 ?k3 ?k4 ?k5 ?kK ?kp ?kd ?ku ?_; (case k1 => k_asm); (case k2 => k_asm); (case k3 => k_asm); (case k4 => k_asm); (case k5 => k_asm); (case kK => first | exact rfl | assumption); (case kp => first | trivial | assumption | exact TabAt.keep (by assumption) (Fr.keep (by assumption))); (case kd => ktr_room); (case ku => ktr_units))); (intro t8 h8 tk8 kp8 F8 N8; (((try dsimp only); (try k_fold))))) | ((with_reducible show wpAny _ _ (call (Value.ref 164) _ _) _ _ _); (k_dflt (refine' Pure.useK (rest_ok2 _ _ _ (by omega)) ?k1 ?k2 ?k3 ?k4 ?k5 ?kK ?kp ?kd ?ku ?_; (case k1 => k_asm); (case k2 => k_asm); (case k3 => k_asm); (case k4 => k_asm); (case k5 => k_asm); (case kK => first | exact rfl | assumption); (case kp => first | trivial | assumption | exact TabAt.keep (by assumption) (Fr.keep (by assumption))); (case kd => ktr_room); (case ku => ktr_units))); (intro t8 h8 tk8 kp8 F8 N8; (((try dsimp only); (try k_fold))))))) | ((fail_if_success (with_reducible show wpAny _ _ (call (Value.ref 190) _ _) _ _ _)); (fail_if_success (with_reducible show wpAny _ _ (call (Value.ref 197) _ _) _ _ _)); (fail_if_success (with_reducible show wpAny _ _ (call (Value.ref 183) _ _) _ _ _)); (fail_if_success (with_reducible show wpAny _ _ (call (Value.ref 204) _ _) _ _ _)); (fail_if_success (with_reducible show wpAny _ _ (exec (Stmt.Assign _ (Expr.DictComp _ _ _ _ _) _) _) _ _ _)); (((fail_if_success (with_reducible show wpAny _ _ (pyIter _) _ _ _)); (fail_if_success (with_reducible show wpAny _ _ (exec (Stmt.For _ _ _ _ _) _) _ _ _)); (fail_if_success (with_reducible show wpAny _ _ (eval (Expr.ListComp _ _ _ _) _) _ _ _)); (fail_if_success (with_reducible show wpAny _ _ (exec (Stmt.Assign _ (Expr.ListComp _ _ _ _) _) _) _ _ _)); walk1; (try dsimp only)))) | dsimp only))
      rename Fr _ _ _ _ => F12
      rename News _ _ _ _ => N12
      have hSt : ∀ a0 a1 a2 a3 a4, StrsAre [Value.str (Str.ofString "?---------") a0, Value.str (lisS (restB 48 n1)) a1, Value.str (lisS (restB 48 n2)) a2, Value.str (lisS (restB 48 n3)) a3, Value.str (Str.ofString "?---------") a4] [Str.ofString "?---------", lisS (restB 48 n1), lisS (restB 48 n2), lisS (restB 48 n3), Str.ofString "?---------"] := fun a0 a1 a2 a3 a4 => .cons _ _ (.cons _ _ (.cons _ _ (.cons _ _ (.cons _ _ .nil))))
      refine ne_strs (News.isList N12 (by k_mem)) (News.isList N12 (by k_mem)) (hSt _ _ _ _ _) (hSt _ _ _ _ _) ?_ (by ke_room) ?_
      · intro x hx
        simp only [List.mem_cons, List.not_mem_nil, or_false] at hx
        rcases hx with rfl | rfl | rfl | rfl | rfl
        · rw [← lis_nil]; exact lis_ok _
        · exact lis_ok _
        · exact lis_ok _
        · exact lis_ok _
        · rw [← lis_nil]; exact lis_ok _
      (repeat' (first | ((k_unfold; (try dsimp only))) | ((first | ((with_reducible show wpAny _ _ (call (Value.ref 209) _ _) _ _ _); (k_dflt (refine' Pure.use (rights_ok2 _ _ _) ?k1 ?k2 ?k3 ?k4 ?k5 ?kK ?kp ?kd ?ku ?_; (case k1 => k_asm); (case k2 => k_asm); (case k3 => k_asm); (case k4 => k_asm); (case k5 => k_asm); (case kK => first | exact rfl | assumption); (case kp => first | trivial | assumption | exact TabAt.keep (by assumption) (Fr.keep (by assumption))); (case kd => ktr_room); (case ku => ktr_units))); ((intro t8 h8 tk8 F8 N8; (((try dsimp only); (try k_fold)))))) | ((with_reducible show wpAny _ _ (call (Value.ref 75) _ _) _ _ _); (k_dflt (refine' Pure.use (filemode_ok _ _ _ (restB_lt _ _)) ?k1 ?k2 ?k3 ?k4 ?k5 ?kK ?kp ?kd ?ku ?_; (case k1 => k_asm); (case k2 => k_asm); (case k3 => k_asm); (case k4 => k_asm); (case k5 => k_asm); (case kK => first | exact rfl | assumption); (case kp => first | trivial | assumption | exact TabAt.keep (by assumption) (Fr.keep (by assumption))); (case kd => ktr_room); (case ku => ktr_units))); ((intro t8 h8 tk8 F8 N8; (((try dsimp only); (try k_fold)))))) | ((with_reducible show wpAny _ _ (call (Value.ref 147) _ _) _ _ _); (k_dflt (refine' Pure.useK (listing_ok2 _ _ _ (restB_lt _ _)) ?k1 ?k2 ?k3 ?k4 ?k5 ?kK ?kp ?kd ?ku ?_; (case k1 => k_asm); (case k2 => k_asm); (case k3 => k_asm); (case k4 => k_asm); (case k5 => k_asm); (case kK => first | exact rfl | assumption); (case kp => first | trivial | assumption | exact TabAt.keep (by assumption) (Fr.keep (by assumption))); (case kd => ktr_room); (case ku => ktr_units))); (intro t8 h8 tk8 kp8 F8 N8; (((try dsimp only); (try k_fold))))) | ((with_reducible show wpAny _ _ (call (Value.ref 164) _ _) _ _ _); (k_dflt (refine' Pure.useK (rest_ok2 _ _ _ (by omega)) ?k1 ?k2 ?k3 ?k4 ?k5 ?kK ?kp ?kd ?ku ?_; (case k1 => k_asm); (case k2 => k_asm); (case k3 => k_asm); (case k4 => k_asm); (case k5 => k_asm); (case kK => first | exact rfl | assumption); (case kp => first | trivial | assumption | exact TabAt.keep (by assumption) (Fr.keep (by assumption))); (case kd => ktr_room); (case ku => ktr_units))); (intro t8 h8 tk8 kp8 F8 N8; (((try dsimp only); (try k_fold))))))) | ((fail_if_success (with_reducible show wpAny _ _ (call (Value.ref 190) _ _) _ _ _)); (fail_if_success (with_reducible show wpAny _ _ (call (Value.ref 197) _ _) _ _ _)); (fail_if_success (with_reducible show wpAny _ _ (call (Value.ref 183) _ _) _ _ _)); (fail_if_success (with_reducible show wpAny _ _ (call (Value.ref 204) _ _) _ _ _)); (fail_if_success (with_reducible show wpAny _ _ (exec (Stmt.Assign _ (Expr.DictComp _ _ _ _ _) _) _) _ _ _)); (((fail_if_success (with_reducible show wpAny _ _ (pyIter _) _ _ _)); (fail_if_success (with_reducible show wpAny _ _ (exec (Stmt.For _ _ _ _ _) _) _ _ _)); (fail_if_success (with_reducible show wpAny _ _ (eval (Expr.ListComp _ _ _ _) _) _ _ _)); (fail_if_success (with_reducible show wpAny _ _ (exec (Stmt.Assign _ (Expr.ListComp _ _ _ _) _) _) _ _ _)); walk1; (try dsimp only)))) | dsimp only))
      refine comp_asgn (fun _ => true) EqEl (by assumption) rfl (by with_unfolding_all rfl) (by with_unfolding_all rfl) (by decide) (by rfl) (by decide) (by rfl) rfl rfl ?_
      (repeat' (first | ((k_unfold; (try dsimp only))) | ((first | ((with_reducible show wpAny _ _ (call (Value.ref 209) _ _) _ _ _); (k_dflt (refine' Pure.use (rights_ok2 _ _ _) ?k1 ?k2 ?k3 ?k4 ?k5 ?kK ?kp ?kd ?ku ?_; (case k1 => k_asm); (case k2 => k_asm); (case k3 => k_asm); (case k4 => k_asm); (case k5 => k_asm); (case kK => first | exact rfl | assumption); (case kp => first | trivial | assumption | exact TabAt.keep (by assumption) (Fr.keep (by assumption))); (case kd => ktr_room); (case ku => ktr_units))); ((intro t8 h8 tk8 F8 N8; (((try dsimp only); (try k_fold)))))) | ((with_reducible show wpAny _ _ (call (Value.ref 75) _ _) _ _ _); (k_dflt (refine' Pure.use (filemode_ok _ _ _ (restB_lt _ _)) ?k1 ?k2 ?k3 ?k4 ?k5 ?kK ?kp ?kd ?ku ?_; (case k1 => k_asm); (case k2 => k_asm); (case k3 => k_asm); (case k4 => k_asm); (case k5 => k_asm); (case kK => first | exact rfl | assumption); (case kp => first | trivial | assumption | exact TabAt.keep (by assumption) (Fr.keep (by assumption))); (case kd => ktr_room); (case ku => ktr_units))); ((intro t8 h8 tk8 F8 N8; (((try dsimp only); (try k_fold)))))) | ((with_reducible show wpAny _ _ (call (Value.ref 147) _ _) _ _ _); (k_dflt (refine' Pure.useK (listing_ok2 _ _ _ (restB_lt _ _)) ?k1 ?k2 ?k3 ?k4 ?k5 ?kK ?kp ?kd ?ku ?_; (case k1 => k_asm); (case k2 => k_asm); (case k3 => k_asm); (case k4 => k_asm); (case k5 => k_asm); (case kK => first | exact rfl | assumption); (case kp => first | trivial | assumption | exact TabAt.keep (by assumption) (Fr.keep (by assumption))); (case kd => ktr_room); (case ku => ktr_units))); (intro t8 h8 tk8 kp8 F8 N8; (((try dsimp only); (try k_fold))))) | ((with_reducible show wpAny _ _ (call (Value.ref 164) _ _) _ _ _); (k_dflt (refine' Pure.useK (rest_ok2 _ _ _ (by omega)) ?k1 ?k2 ?k3 ?k4 ?k5 ?kK ?kp ?kd ?ku ?_; (case k1 => k_asm); (case k2 => k_asm); (case k3 => k_asm); (case k4 => k_asm); (case k5 => k_asm); (case kK => first | exact rfl | assumption); (case kp => first | trivial | assumption | exact TabAt.keep (by assumption) (Fr.keep (by assumption))); (case kd => ktr_room); (case ku => ktr_units))); (intro t8 h8 tk8 kp8 F8 N8; (((try dsimp only); (try k_fold))))))) | ((fail_if_success (with_reducible show wpAny _ _ (call (Value.ref 190) _ _) _ _ _)); (fail_if_success (with_reducible show wpAny _ _ (call (Value.ref 197) _ _) _ _ _)); (fail_if_success (with_reducible show wpAny _ _ (call (Value.ref 183) _ _) _ _ _)); (fail_if_success (with_reducible show wpAny _ _ (call (Value.ref 204) _ _) _ _ _)); (fail_if_success (with_reducible show wpAny _ _ (exec (Stmt.Assign _ (Expr.DictComp _ _ _ _ _) _) _) _ _ _)); (((fail_if_success (with_reducible show wpAny _ _ (pyIter _) _ _ _)); (fail_if_success (with_reducible show wpAny _ _ (exec (Stmt.For _ _ _ _ _) _) _ _ _)); (fail_if_success (with_reducible show wpAny _ _ (eval (Expr.ListComp _ _ _ _) _) _ _ _)); (fail_if_success (with_reducible show wpAny _ _ (exec (Stmt.Assign _ (Expr.ListComp _ _ _ _) _) _) _ _ _)); walk1; (try dsimp only)))) | dsimp only))
      refine ⟨_, _, _, Src.list (by rfl) (News.isList (by assumption) (by k_mem)), by assumption, by assumption, Nat.le_of_ble_eq_true rfl, ?_, ?_, ?_⟩
      · intro C oC m₂ i v s₃ E' hP hc
        exact wpAny_pure ⟨rfl, _, _, rfl, fun _ _ e => e⟩
      · rintro C oC m₂ i v s₃ E' hv - ⟨c1, c2, c3, c4⟩
        obtain ⟨x, t, rfl⟩ : ∃ x t, v = Value.str x t := by
          have hm := Array.mem_of_getElem? hv
          simp only [List.mem_toArray, List.mem_cons, List.not_mem_nil, or_false] at hm
          rcases hm with rfl | rfl | rfl | rfl | rfl <;> exact ⟨_, _, rfl⟩
        (repeat' (first | ((k_unfold; (try dsimp only))) | ((first | ((with_reducible show wpAny _ _ (call (Value.ref 209) _ _) _ _ _); (k_dflt (refine' Pure.use (rights_ok2 _ _ _) ?k1 ?k2 ?k3 ?k4 ?k5 ?kK ?kp ?kd ?ku ?_; (case k1 => k_asm); (case k2 => k_asm); (case k3 => k_asm); (case k4 => k_asm); (case k5 => k_asm); (case kK => first | exact rfl | assumption); (case kp => first | trivial | assumption | exact TabAt.keep (by assumption) (Fr.keep (by assumption))); (case kd => ktr_room); (case ku => ktr_units))); ((intro t8 h8 tk8 F8 N8; (((try dsimp only); (try k_fold)))))) | ((with_reducible show wpAny _ _ (call (Value.ref 75) _ _) _ _ _); (k_dflt (refine' Pure.use (filemode_ok _ _ _ (restB_lt _ _)) ?k1 ?k2 ?k3 ?k4 ?k5 ?kK ?kp ?kd ?ku ?_; (case k1 => k_asm); (case k2 => k_asm); (case k3 => k_asm); (case k4 => k_asm); (case k5 => k_asm); (case kK => first | exact rfl | assumption); (case kp => first | trivial | assumption | exact TabAt.keep (by assumption) (Fr.keep (by assumption))); (case kd => ktr_room); (case ku => ktr_units))); ((intro t8 h8 tk8 F8 N8; (((try dsimp only); (try k_fold)))))) | ((with_reducible show wpAny _ _ (call (Value.ref 147) _ _) _ _ _); (k_dflt (refine' Pure.useK (listing_ok2 _ _ _ (restB_lt _ _)) ?k1 ?k2 ?k3 ?k4 ?k5 ?kK ?kp ?kd ?ku ?_; (case k1 => k_asm); (case k2 => k_asm); (case k3 => k_asm); (case k4 => k_asm); (case k5 => k_asm); (case kK => first | exact rfl | assumption); (case kp => first | trivial | assumption | exact TabAt.keep (by assumption) (Fr.keep (by assumption))); (case kd => ktr_room); (case ku => ktr_units))); (intro t8 h8 tk8 kp8 F8 N8; (((try dsimp only); (try k_fold))))) | ((with_reducible show wpAny _ _ (call (Value.ref 164) _ _) _ _ _); (k_dflt (refine' Pure.useK (rest_ok2 _ _ _ (by omega)) ?k1 ?k2 ?k3 ?k4 ?k5 ?kK ?kp ?kd ?ku ?_; (case k1 => k_asm); (case k2 => k_asm); (case k3 => k_asm); (case k4 => k_asm); (case k5 => k_asm); (case kK => first | exact rfl | assumption); (case kp => first | trivial | assumption | exact TabAt.keep (by assumption) (Fr.keep (by assumption))); (case kd => ktr_room); (case ku => ktr_units))); (intro t8 h8 tk8 kp8 F8 N8; (((try dsimp only); (try k_fold))))))) | ((fail_if_success (with_reducible show wpAny _ _ (call (Value.ref 190) _ _) _ _ _)); (fail_if_success (with_reducible show wpAny _ _ (call (Value.ref 197) _ _) _ _ _)); (fail_if_success (with_reducible show wpAny _ _ (call (Value.ref 183) _ _) _ _ _)); (fail_if_success (with_reducible show wpAny _ _ (call (Value.ref 204) _ _) _ _ _)); (fail_if_success (with_reducible show wpAny _ _ (exec (Stmt.Assign _ (Expr.DictComp _ _ _ _ _) _) _) _ _ _)); (((fail_if_success (with_reducible show wpAny _ _ (pyIter _) _ _ _)); (fail_if_success (with_reducible show wpAny _ _ (exec (Stmt.For _ _ _ _ _) _) _ _ _)); (fail_if_success (with_reducible show wpAny _ _ (eval (Expr.ListComp _ _ _ _) _) _ _ _)); (fail_if_success (with_reducible show wpAny _ _ (exec (Stmt.Assign _ (Expr.ListComp _ _ _ _) _) _) _ _ _)); walk1; (try dsimp only)))) | dsimp only))
        exact ⟨⟨_, _, rfl, rfl⟩, _, _, rfl, fun b o e => e⟩
      · intro D5 h13 tk13 k5 zs5 vs5 hlen5 hP5 hF5 F13 N13 hD5
        have e5 := list_of_at (by simpa using hlen5) hP5
        subst e5
        rw [filt_true] at hF5
        have hl1 : lisS (restB 48 n1) ≠ Str.ofString "?---------" := fun h => hr1 (lis_zero _ (restB_lt _ _) h)
        have hl2 : lisS (restB 48 n2) ≠ Str.ofString "?---------" := fun h => hr2 (lis_zero _ (restB_lt _ _) h)
        have hl3 : lisS (restB 48 n3) ≠ Str.ofString "?---------" := fun h => by rw [lis_zero _ (restB_lt _ _) h] at hr3; exact absurd hr3 (by decide)
        have ez := eq_els rfl hl1 hl2 hl3 hF5
        subst ez
        clear hF5 hP5 hlen5
        dsimp only
        (repeat' (first | ((k_unfold; (try dsimp only))) | ((first | ((with_reducible show wpAny _ _ (call (Value.ref 209) _ _) _ _ _); (k_dflt (refine' Pure.use (rights_ok2 _ _ _) ?k1 ?k2 ?k3 ?k4 ?k5 ?kK ?kp ?kd ?ku ?_; (case k1 => k_asm); (case k2 => k_asm); (case k3 => k_asm); (case k4 => k_asm); (case k5 => k_asm); (case kK => first | exact rfl | assumption); (case kp => first | trivial | assumption | exact TabAt.keep (by assumption) (Fr.keep (by assumption))); (case kd => ktr_room); (case ku => ktr_units))); ((intro t8 h8 tk8 F8 N8; (((try dsimp only); (try k_fold)))))) | ((with_reducible show wpAny _ _ (call (Value.ref 75) _ _) _ _ _); (k_dflt (refine' Pure.use (filemode_ok _ _ _ (restB_lt _ _)) ?k1 ?k2 ?k3 ?k4 ?k5 ?kK ?kp ?kd ?ku ?_; (case k1 => k_asm); (case k2 => k_asm); (case k3 => k_asm); (case k4 => k_asm); (case k5 => k_asm); (case kK => first | exact rfl | assumption); (case kp => first | trivial | assumption | exact TabAt.keep (by assumption) (Fr.keep (by assumption))); (case kd => ktr_room); (case ku => ktr_units))); ((intro t8 h8 tk8 F8 N8; (((try dsimp only); (try k_fold)))))) | ((with_reducible show wpAny _ _ (call (Value.ref 147) _ _) _ _ _); (k_dflt (refine' Pure.useK (listing_ok2 _ _ _ (restB_lt _ _)) ?k1 ?k2 ?k3 ?k4 ?k5 ?kK ?kp ?kd ?ku ?_; (case k1 => k_asm); (case k2 => k_asm); (case k3 => k_asm); (case k4 => k_asm); (case k5 => k_asm); (case kK => first | exact rfl | assumption); (case kp => first | trivial | assumption | exact TabAt.keep (by assumption) (Fr.keep (by assumption))); (case kd => ktr_room); (case ku => ktr_units))); (intro t8 h8 tk8 kp8 F8 N8; (((try dsimp only); (try k_fold))))) | ((with_reducible show wpAny _ _ (call (Value.ref 164) _ _) _ _ _); (k_dflt (refine' Pure.useK (rest_ok2 _ _ _ (by omega)) ?k1 ?k2 ?k3 ?k4 ?k5 ?kK ?kp ?kd ?ku ?_; (case k1 => k_asm); (case k2 => k_asm); (case k3 => k_asm); (case k4 => k_asm); (case k5 => k_asm); (case kK => first | exact rfl | assumption); (case kp => first | trivial | assumption | exact TabAt.keep (by assumption) (Fr.keep (by assumption))); (case kd => ktr_room); (case ku => ktr_units))); (intro t8 h8 tk8 kp8 F8 N8; (((try dsimp only); (try k_fold))))))) | ((fail_if_success (with_reducible show wpAny _ _ (call (Value.ref 190) _ _) _ _ _)); (fail_if_success (with_reducible show wpAny _ _ (call (Value.ref 197) _ _) _ _ _)); (fail_if_success (with_reducible show wpAny _ _ (call (Value.ref 183) _ _) _ _ _)); (fail_if_success (with_reducible show wpAny _ _ (call (Value.ref 204) _ _) _ _ _)); (fail_if_success (with_reducible show wpAny _ _ (exec (Stmt.Assign _ (Expr.DictComp _ _ _ _ _) _) _) _ _ _)); (((fail_if_success (with_reducible show wpAny _ _ (pyIter _) _ _ _)); (fail_if_success (with_reducible show wpAny _ _ (exec (Stmt.For _ _ _ _ _) _) _ _ _)); (fail_if_success (with_reducible show wpAny _ _ (eval (Expr.ListComp _ _ _ _) _) _ _ _)); (fail_if_success (with_reducible show wpAny _ _ (exec (Stmt.Assign _ (Expr.ListComp _ _ _ _) _) _) _ _ _)); walk1; (try dsimp only)))) | dsimp only))
        have hb : (((rightsL (lisC (restB 48 n3)).tail : Nat) : Int).fmod 2 == 1) = true := by
          have e := fmN (rightsL (lisC (restB 48 n3)).tail) 2
          rw [rights_par, hr3] at e
          exact beq_iff_eq.mpr e
        rw [hb]
        refine hQA _ _ ?_
        dsimp only
        k_end
        refine goodW_bool (by assumption) (by assumption) (raisesW_false ?_) ?_
        · wrow_none_raised
        · exact postW_of (X := true) (by wrow_shape) (by kernel_rfl) rfl
end
end Mine
theorem PySem.Challenge.cw_om0013_01_holds : PySem.Challenge.rw_om0013_01.Holds :=
  Mine.law_holds
