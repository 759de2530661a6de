import PyProof.Rows.All
import Wide.All
import OpenK.AllK
import Wide.FinOn
import PySem.Challenge.RW_uj0006_01

-- FILE HK
open PySem PySem.W PyProof.Rows
set_option Elab.async false
set_option autoImplicit false
set_option maxRecDepth 100000
namespace Mine
noncomputable section
noncomputable def pw : Program := PySem.Challenge.pw_uj0006_01
noncomputable def stF (o : Option Stmt) : Arguments × FuncBody × Scope := match o with
  | some s => if h : s.ctorIdx = 0 then Stmt.FunctionDef.elim (motive_2 := fun _ => Arguments × FuncBody × Scope) s h fun _ params body _ _ _ scope _ _ _ => (params, .stmts body, scope) else (⟨[], [], none, [], [], none, []⟩, .stmts [], ⟨.function, [], false, false, []⟩)
  | none => (⟨[], [], none, [], [], none, []⟩, .stmts [], ⟨.function, [], false, false, []⟩)
noncomputable def stC (o : Option Stmt) : List Stmt := match o with
  | some s => if h : s.ctorIdx = 2 then Stmt.ClassDef.elim (motive_2 := fun _ => List Stmt) s h fun _ _ _ body _ _ _ _ _ _ _ => body else []
  | none => []
/-- a function of the text at its place; a method of its class -/
noncomputable def fnA (i : Nat) : Arguments × FuncBody × Scope := stF (pw.main.body[i]? : Option Stmt)
noncomputable def fnM (j : Nat) : Arguments × FuncBody × Scope := stF ((stC (pw.main.body[17]? : Option Stmt))[j]? : Option Stmt)
noncomputable def enO (P : Params) (x : Str) (t : Tok) (v : Value) : DictEntry := { hash := PyData.keyHash P x, key := .str x t, val := v }
noncomputable def dtO (es : List DictEntry) (n : Nat) : Obj := { cls := .type "dict", data := .dict es.toArray n }
noncomputable def tpO (vs : List Value) : Obj := { cls := .type "tuple", data := .seq vs.toArray }
noncomputable def gtO (vs : List Value) : Obj := { cls := .type "getset_descriptor", data := .fields vs.toArray }
noncomputable def cdO (nm q : Str) (t : Tok) (ln ac kw fl : Int) (vn tb a b c e : Value) (i : Int) (u : Tok) : Obj := { cls := .type "code", data := .fields #[.str nm t, .str q (t + 1), .str "/claim/cut.py" (t + 2), .int ln 0, .int ac 0, .int 0 0, .int kw 0, .int fl 0, vn, .bool true, .int 181 0, tb, a, b, c, e, .int i 0, .int ln 0, .str "/claim/cut.py" u] }
noncomputable def fnO (nm q : Str) (p : Arguments × FuncBody × Scope) (df kw : Value) (m : Str) (t : Tok) (c : Addr) : Obj := { cls := .type "function", data := .func { name := nm, qualname := q, params := p.1, body := p.2.1, scope := p.2.2, globals := 3, closure := [], defaults := df, kwdefaults := kw, pyModule := .str m t, code := .ref c } }
/-- the objects of the text's top that the law comes to -/
noncomputable def hpK (P : Params) : Frag := [(3, dtO [enO P "__name__" 165 (.str "law_uj0006_01" 424), enO P "__doc__" 166 .none, enO P "__package__" 167 .none, enO P "__loader__" 168 (.builtin "__main__.__loader__#opaque"), enO P "__spec__" 169 .none, enO P "__annotations__" 170 (.ref 6), enO P "__builtins__" 171 (.ref 4), enO P "__file__" 173 (.str "/claim/cut.py" 172), enO P "__cached__" 174 .none, enO P "_DIV_LIMIT" 190 (.int 4000 189), enO P "_div2n1n" 207 (.ref 21), enO P "_div3n2n" 221 (.ref 28), enO P "_int2digits" 232 (.ref 35), enO P "_digits2int" 243 (.ref 42), enO P "_divmod_pos" 258 (.ref 49), enO P "int_divmod" 268 (.ref 56), enO P "insort_right" 283 (.ref 65), enO P "bisect_right" 297 (.ref 74), enO P "insort_left" 310 (.ref 83), enO P "bisect_left" 324 (.ref 92), enO P "rgb_to_hls" 345 (.ref 99), enO P "rgb_to_hsv" 363 (.ref 106), enO P "_netrclex" 423 (.ref 144), enO P "_law_stream" 434 (.ref 155), enO P "_law_written" 440 (.ref 160), enO P "_law_parts" 446 (.ref 165), enO P "_law_negative" 452 (.ref 170), enO P "_law_step" 462 (.ref 177), enO P "_law_near" 470 (.ref 184), enO P "_law_hue" 480 (.ref 191), enO P "_law_way" 487 (.ref 198), enO P "_law_measure" 496 (.ref 205), enO P "_law_end" 511 (.ref 212), enO P "law" 517 (.ref 217)] 34),
  (20, cdO "_div2n1n" "_div2n1n" 191 3 3 0 3 (.ref 15) (.ref 16) .none (.ref 17) (.ref 18) (.ref 19) 205 206),
  (21, fnO "_div2n1n" "_div2n1n" (fnA 2) .none .none "cpy313._pylong" 187 20),
  (34, cdO "_int2digits" "_int2digits" 222 29 2 0 3 (.ref 29) (.ref 30) .none (.ref 31) (.ref 32) (.ref 33) 230 231),
  (35, fnO "_int2digits" "_int2digits" (fnA 4) .none .none "cpy313._pylong" 187 34),
  (41, cdO "_digits2int" "_digits2int" 233 45 2 0 3 (.ref 36) (.ref 37) .none (.ref 38) (.ref 39) (.ref 40) 241 242),
  (42, fnO "_digits2int" "_digits2int" (fnA 5) .none .none "cpy313._pylong" 187 41),
  (48, cdO "_divmod_pos" "_divmod_pos" 244 54 2 0 3 (.ref 43) (.ref 44) .none (.ref 45) (.ref 46) (.ref 47) 256 257),
  (49, fnO "_divmod_pos" "_divmod_pos" (fnA 6) .none .none "cpy313._pylong" 187 48),
  (55, cdO "int_divmod" "int_divmod" 259 65 2 0 3 (.ref 50) (.ref 51) .none (.ref 52) (.ref 53) (.ref 54) 266 267),
  (56, fnO "int_divmod" "int_divmod" (fnA 7) .none .none "cpy313._pylong" 187 55),
  (57, tpO [(.int 0 271), .none]),
  (58, dtO [enO P "key" 272 .none] 1),
  (64, cdO "insort_right" "insort_right" 273 77 4 1 3 (.ref 59) (.ref 60) .none (.ref 61) (.ref 62) (.ref 63) 281 282),
  (65, fnO "insort_right" "insort_right" (fnA 9) (.ref 57) (.ref 58) "cpy313.bisect" 269 64),
  (66, tpO [(.int 0 284), .none]),
  (67, dtO [enO P "key" 285 .none] 1),
  (73, cdO "bisect_right" "bisect_right" 286 83 4 1 3 (.ref 68) (.ref 69) .none (.ref 70) (.ref 71) (.ref 72) 295 296),
  (74, fnO "bisect_right" "bisect_right" (fnA 10) (.ref 66) (.ref 67) "cpy313.bisect" 269 73),
  (75, tpO [(.int 0 298), .none]),
  (76, dtO [enO P "key" 299 .none] 1),
  (82, cdO "insort_left" "insort_left" 300 103 4 1 3 (.ref 77) (.ref 78) .none (.ref 79) (.ref 80) (.ref 81) 308 309),
  (83, fnO "insort_left" "insort_left" (fnA 11) (.ref 75) (.ref 76) "cpy313.bisect" 269 82),
  (84, tpO [(.int 0 311), .none]),
  (85, dtO [enO P "key" 312 .none] 1),
  (91, cdO "bisect_left" "bisect_left" 313 109 4 1 3 (.ref 86) (.ref 87) .none (.ref 88) (.ref 89) (.ref 90) 322 323),
  (92, fnO "bisect_left" "bisect_left" (fnA 12) (.ref 84) (.ref 85) "cpy313.bisect" 269 91),
  (98, cdO "rgb_to_hls" "rgb_to_hls" 327 130 3 0 3 (.ref 93) (.ref 94) .none (.ref 95) (.ref 96) (.ref 97) 343 344),
  (99, fnO "rgb_to_hls" "rgb_to_hls" (fnA 14) .none .none "cpy313.colorsys" 325 98),
  (105, cdO "rgb_to_hsv" "rgb_to_hsv" 346 153 3 0 3 (.ref 100) (.ref 101) .none (.ref 102) (.ref 103) (.ref 104) 361 362),
  (106, fnO "rgb_to_hsv" "rgb_to_hsv" (fnA 15) .none .none "cpy313.colorsys" 325 105),
  (119, cdO "__init__" "_netrclex.__init__" 378 175 2 0 3 (.ref 114) (.ref 115) .none (.ref 116) (.ref 117) (.ref 118) 383 384),
  (120, fnO "__init__" "_netrclex.__init__" (fnM 0) .none .none "cpy313.netrc" 364 119),
  (126, cdO "_read_char" "_netrclex._read_char" 386 181 1 0 3 (.ref 121) (.ref 122) .none (.ref 123) (.ref 124) (.ref 125) 391 392),
  (127, fnO "_read_char" "_netrclex._read_char" (fnM 1) .none .none "cpy313.netrc" 364 126),
  (133, cdO "get_token" "_netrclex.get_token" 394 187 1 0 3 (.ref 128) (.ref 129) .none (.ref 130) (.ref 131) (.ref 132) 401 402),
  (134, fnO "get_token" "_netrclex.get_token" (fnM 2) .none .none "cpy313.netrc" 364 133),
  (140, cdO "push_token" "_netrclex.push_token" 404 214 2 0 3 (.ref 135) (.ref 136) .none (.ref 137) (.ref 138) (.ref 139) 409 410),
  (141, fnO "push_token" "_netrclex.push_token" (fnM 3) .none .none "cpy313.netrc" 364 140),
  (142, tpO [(.str "instream" 412), (.str "lineno" 413), (.str "pushback" 414), (.str "whitespace" 415)]),
  (143, dtO [enO P "__module__" 373 (.str "cpy313.netrc" 364), enO P "__firstlineno__" 377 (.int 173 376), enO P "__init__" 385 (.ref 120), enO P "_read_char" 393 (.ref 127), enO P "get_token" 403 (.ref 134), enO P "push_token" 411 (.ref 141), enO P "__static_attributes__" 416 (.ref 142), enO P "__dict__" 418 (.ref 145), enO P "__weakref__" 420 (.ref 146), enO P "__doc__" 421 .none] 4),
  (144, { cls := .type "type", data := .cls { name := "_netrclex", bases := [.type "object"], mro := [.ref 144, .type "object"], ns := 143, qualname := "_netrclex" }, slots := #[none, none, some (.str "_netrclex" 366), some (.str "_netrclex" 374), some (.builtin "object.__new__"), some (.bool true)] }),
  (145, gtO [(.str "__dict__" 417), (.ref 144), (.builtin "function.__dict__"), (.builtin "function.__dict__#set")]),
  (146, gtO [(.str "__weakref__" 419), (.ref 144), (.builtin "ExceptionGroup.__weakref__"), .none]),
  (154, cdO "_law_stream" "_law_stream" 426 217 1 0 3 (.ref 149) (.ref 150) .none (.ref 151) (.ref 152) (.ref 153) 432 433),
  (155, fnO "_law_stream" "_law_stream" (fnA 19) .none .none "law_uj0006_01" 424 154),
  (159, cdO "_law_written" "_law_written" 435 222 2 0 3 (.ref 156) (.ref 157) .none .none .none (.ref 158) 438 439),
  (160, fnO "_law_written" "_law_written" (fnA 20) .none .none "law_uj0006_01" 424 159),
  (164, cdO "_law_parts" "_law_parts" 441 226 1 0 3 (.ref 161) (.ref 162) .none .none .none (.ref 163) 444 445),
  (165, fnO "_law_parts" "_law_parts" (fnA 21) .none .none "law_uj0006_01" 424 164),
  (169, cdO "_law_negative" "_law_negative" 447 228 1 0 3 (.ref 166) (.ref 167) .none .none .none (.ref 168) 450 451),
  (170, fnO "_law_negative" "_law_negative" (fnA 22) .none .none "law_uj0006_01" 424 169),
  (176, cdO "_law_step" "_law_step" 453 230 1 0 3 (.ref 171) (.ref 172) .none (.ref 173) (.ref 174) (.ref 175) 460 461),
  (177, fnO "_law_step" "_law_step" (fnA 23) .none .none "law_uj0006_01" 424 176),
  (183, cdO "_law_near" "_law_near" 463 233 2 0 3 (.ref 178) (.ref 179) .none (.ref 180) (.ref 181) (.ref 182) 468 469),
  (184, fnO "_law_near" "_law_near" (fnA 24) .none .none "law_uj0006_01" 424 183),
  (190, cdO "_law_hue" "_law_hue" 471 235 1 0 3 (.ref 185) (.ref 186) .none (.ref 187) (.ref 188) (.ref 189) 478 479),
  (191, fnO "_law_hue" "_law_hue" (fnA 25) .none .none "law_uj0006_01" 424 190),
  (197, cdO "_law_way" "_law_way" 481 238 1 0 3 (.ref 192) (.ref 193) .none (.ref 194) (.ref 195) (.ref 196) 485 486),
  (198, fnO "_law_way" "_law_way" (fnA 26) .none .none "law_uj0006_01" 424 197),
  (204, cdO "_law_measure" "_law_measure" 488 240 1 0 3 (.ref 199) (.ref 200) .none (.ref 201) (.ref 202) (.ref 203) 494 495),
  (205, fnO "_law_measure" "_law_measure" (fnA 27) .none .none "law_uj0006_01" 424 204),
  (211, cdO "_law_end" "_law_end" 497 245 4 0 3 (.ref 206) (.ref 207) .none (.ref 208) (.ref 209) (.ref 210) 509 510),
  (212, fnO "_law_end" "_law_end" (fnA 28) .none .none "law_uj0006_01" 424 211),
  (216, cdO "law" "law" 512 250 1 0 3 (.ref 213) (.ref 214) .none .none .none (.ref 215) 515 516),
  (217, fnO "law" "law" (fnA 29) .none .none "law_uj0006_01" 424 216)]
/-- a code record that the law does not come to -/
noncomputable def cd27 : Obj := cdO "_div3n2n" "_div3n2n" 208 19 6 0 3 (.ref 22) (.ref 23) .none (.ref 24) (.ref 25) (.ref 26) 219 220
end
end Mine

-- FILE A1
open PySem PySem.W PyProof.Rows
set_option Elab.async false
set_option autoImplicit false
namespace Mine

/-! ## values and objects of the abstract state -/
inductive V where
  | none | bool (b : Bool) | int (i : Int) | flt (x : UInt64) | str (s : Str) | typ (n : String) | bi (n : String)
  | ref (i : Nat) | gref (a : Addr) | raw (v : Value) | bad

noncomputable abbrev Rho := List Addr
noncomputable def V.Rel (ρ : Rho) : V → Value → Prop
  | .none, x => x = .none
  | .bool b, x => x = .bool b
  | .int i, x => ∃ t, x = .int i t
  | .flt f, x => ∃ t, x = .float f t
  | .str s, x => ∃ t, x = .str s t
  | .typ n, x => x = .type n
  | .bi n, x => x = .builtin n
  | .ref i, x => ∃ a, ρ[i]? = some a ∧ x = .ref a
  | .gref a, x => x = .ref a
  | .raw v, x => x = v
  | .bad, _ => False
noncomputable def VL (ρ : Rho) : List V → List Value → Prop
  | [], [] => True
  | v :: vs, x :: xs => v.Rel ρ x ∧ VL ρ vs xs
  | _, _ => False
noncomputable def OptRel (ρ : Rho) : Option V → Option Value → Prop
  | none, none => True
  | some v, some x => v.Rel ρ x
  | _, _ => False
noncomputable def CellsRel (ρ : Rho) : List (Str × Nat) → List (Str × Addr) → Prop
  | [], [] => True
  | (n, i) :: vs, (m, a) :: xs => n = m ∧ ρ[i]? = some a ∧ CellsRel ρ vs xs
  | _, _ => False
noncomputable def Le (ρ ρ' : Rho) : Prop := ∃ σ, ρ' = ρ ++ σ
theorem Le.refl (ρ : Rho) : Le ρ ρ := ⟨[], (List.append_nil _).symm⟩
theorem Le.trans {a b c : Rho} (h : Le a b) (k : Le b c) : Le a c := by
  obtain ⟨x, rfl⟩ := h; obtain ⟨y, rfl⟩ := k; exact ⟨x ++ y, List.append_assoc ..⟩
theorem Le.get {ρ ρ' : Rho} (h : Le ρ ρ') {i : Nat} {a : Addr} (e : ρ[i]? = some a) : ρ'[i]? = some a := by
  obtain ⟨x, rfl⟩ := h
  rw [List.getElem?_append_left (List.getElem?_eq_some_iff.mp e).1]; exact e
theorem Le.snoc (ρ : Rho) (σ : Rho) : Le ρ (ρ ++ σ) := ⟨σ, rfl⟩
theorem V.Rel.mono {ρ ρ' : Rho} (h : Le ρ ρ') : ∀ {v : V} {x : Value}, v.Rel ρ x → v.Rel ρ' x := by
  intro v x e
  induction v <;> first | exact e | skip
  obtain ⟨a, e1, e2⟩ := e
  exact ⟨a, h.get e1, e2⟩
theorem VL.mono {ρ ρ' : Rho} (h : Le ρ ρ') : ∀ {vs : List V} {xs : List Value}, VL ρ vs xs → VL ρ' vs xs
  | [], [], _ => trivial
  | _ :: _, _ :: _, e => ⟨e.1.mono h, VL.mono h e.2⟩
  | [], _ :: _, e => e.elim
  | _ :: _, [], e => e.elim
theorem OptRel.mono {ρ ρ' : Rho} (h : Le ρ ρ') : ∀ {v : Option V} {x : Option Value}, OptRel ρ v x → OptRel ρ' v x
  | none, none, _ => trivial
  | some _, some _, e => V.Rel.mono h e
  | none, some _, e => e.elim
  | some _, none, e => e.elim
theorem CellsRel.mono {ρ ρ' : Rho} (h : Le ρ ρ') : ∀ {vs : List (Str × Nat)} {xs : List (Str × Addr)}, CellsRel ρ vs xs → CellsRel ρ' vs xs
  | [], [], _ => trivial
  | _ :: _, _ :: _, e => ⟨e.1, h.get e.2.1, CellsRel.mono h e.2.2⟩
  | [], _ :: _, e => e.elim
  | _ :: _, [], e => e.elim
theorem VL.length {ρ : Rho} : ∀ {vs : List V} {xs : List Value}, VL ρ vs xs → xs.length = vs.length
  | [], [], _ => rfl
  | _ :: _, _ :: _, e => by simp [VL.length e.2]
  | [], _ :: _, e => e.elim
  | _ :: _, [], e => e.elim
theorem wp_no {R : Type} {M : Model} {A : Around} {c : Prop} [Decidable c] {t e : Sem R} {Q : R → Shared → Prop} {E : Value → Shared → Prop} {s : Shared} (h : ¬ c) (k : wpAny M A e Q E s) : wpAny M A (if c then t else e) Q E s := by rw [if_neg h]; exact k
theorem wp_yes {R : Type} {M : Model} {A : Around} {c : Prop} [Decidable c] {t e : Sem R} {Q : R → Shared → Prop} {E : Value → Shared → Prop} {s : Shared} (h : c) (k : wpAny M A t Q E s) : wpAny M A (if c then t else e) Q E s := by rw [if_pos h]; exact k
theorem VL.ex0 {ρ : Rho} {l : List Value} (h : VL ρ [] l) : l = [] := by
  induction l using List.casesOn with
  | nil => rfl
  | cons x r => exact h.elim
theorem VL.exc {ρ : Rho} {v : V} {vs : List V} {l : List Value} (h : VL ρ (v :: vs) l) : ∃ x r, l = x :: r ∧ v.Rel ρ x ∧ VL ρ vs r := by
  induction l using List.casesOn with
  | nil => exact h.elim
  | cons x r => exact ⟨x, r, rfl, h⟩
theorem VL.ex1 {ρ : Rho} {a : V} {l : List Value} (h : VL ρ [a] l) : ∃ x, l = [x] ∧ VL ρ [a] [x] := by
  obtain ⟨x, r, rfl, h1, h2⟩ := h.exc
  obtain rfl := h2.ex0
  exact ⟨x, rfl, h⟩
theorem VL.ex2 {ρ : Rho} {a b : V} {l : List Value} (h : VL ρ [a, b] l) : ∃ x y, l = [x, y] ∧ VL ρ [a, b] [x, y] := by
  obtain ⟨x, r, rfl, h1, h2⟩ := h.exc
  obtain ⟨y, rfl, h2⟩ := h2.ex1
  exact ⟨x, y, rfl, h⟩
theorem VL.ex3 {ρ : Rho} {a b c : V} {l : List Value} (h : VL ρ [a, b, c] l) : ∃ x y z, l = [x, y, z] ∧ VL ρ [a, b, c] [x, y, z] := by
  obtain ⟨x, r, rfl, h1, h2⟩ := h.exc
  obtain ⟨y, z, rfl, h2⟩ := h2.ex2
  exact ⟨x, y, z, rfl, h⟩
theorem VL.ex4 {ρ : Rho} {a b c d : V} {l : List Value} (h : VL ρ [a, b, c, d] l) : ∃ x y z w, l = [x, y, z, w] ∧ VL ρ [a, b, c, d] [x, y, z, w] := by
  obtain ⟨x, r, rfl, h1, h2⟩ := h.exc
  obtain ⟨y, z, w, rfl, h2⟩ := h2.ex3
  exact ⟨x, y, z, w, rfl, h⟩
theorem VL.get {ρ : Rho} : ∀ {vs : List V} {xs : List Value} {i : Nat} {v : V}, VL ρ vs xs → vs[i]? = some v → ∃ x, xs[i]? = some x ∧ v.Rel ρ x
  | v :: vs, x :: xs, 0, _, e, h => by cases h; exact ⟨x, rfl, e.1⟩
  | v :: vs, x :: xs, i + 1, _, e, h => by
    obtain ⟨y, h1, h2⟩ := VL.get e.2 (by simpa using h)
    exact ⟨y, by simpa using h1, h2⟩
  | [], _, i, _, _, h => by simp at h
  | _ :: _, [], _, _, e, _ => e.elim
theorem VL.append {ρ : Rho} : ∀ {vs ws : List V} {xs ys : List Value}, VL ρ vs xs → VL ρ ws ys → VL ρ (vs ++ ws) (xs ++ ys)
  | [], _, [], _, _, k => k
  | _ :: _, _, _ :: _, _, e, k => ⟨e.1, VL.append e.2 k⟩
  | [], _, _ :: _, _, e, _ => e.elim
  | _ :: _, _, [], _, e, _ => e.elim
theorem VL.of_get {ρ : Rho} : ∀ {vs : List V} {xs : List Value}, xs.length = vs.length → (∀ (i : Nat) (v : V) (x : Value), vs[i]? = some v → xs[i]? = some x → v.Rel ρ x) → VL ρ vs xs
  | [], [], _, _ => trivial
  | v :: vs, x :: xs, l, h => ⟨h 0 v x rfl rfl, VL.of_get (by simpa using l) fun i v x e e' => h (i + 1) v x (by rw [List.getElem?_cons_succ]; exact e) (by rw [List.getElem?_cons_succ]; exact e')⟩
  | [], _ :: _, l, _ => by simp at l
  | _ :: _, [], l, _ => by simp at l

structure AFn where
  name : Str
  qual : Str
  params : Arguments
  body : FuncBody
  scope : Scope
  cells : List (Str × Nat)
  dict : Option Nat

inductive AO where
  | lst (vs : List V) | tup (vs : List V)
  | ns (m : List (Str × V))
  | cell (v : Option V)
  | inst (C : Addr) (d : Nat)
  | fn (f : AFn)
  | flds (cls : String) (vs : List V)
  | iter (cls : String) (vs : List V)
  | enum (own : Option Nat) (it : Nat) (i : Int) (old : V)
  | dict | junk | bad

noncomputable def SeqRel (ρ : Rho) (cls : String) (vs : List V) (o : Obj) : Prop :=
  ∃ n xs, o = { cls := .type cls, data := .seq xs n } ∧ VL ρ vs xs.toList
noncomputable def DictRel (ρ : Rho) (d : Option Nat) (a : Option Addr) : Prop := match d, a with
  | none, none => True
  | some i, some a => ρ[i]? = some a
  | _, _ => False
structure FnRel (ρ : Rho) (f : AFn) (o : Obj) : Prop where
  cls : o.cls = .type "function"
  dict : DictRel ρ f.dict o.dict
  data : ∃ fd, o.data = .func fd ∧ fd.params = f.params ∧ fd.body = f.body ∧ fd.scope = f.scope ∧ fd.qualname = f.qual ∧ fd.name = f.name ∧ fd.globals = mainGlobals ∧ fd.builtins = builtinsNs ∧
    fd.defaults = .none ∧ fd.kwdefaults = .none ∧ CellsRel ρ f.cells fd.closure
noncomputable def OwnRel (ρ : Rho) : Option Nat → Value → Prop
  | none, x => x = .none
  | some t, x => ∃ a : Nat, ρ[t]? = some a ∧ x = rawInt a
theorem OwnRel.mono {ρ ρ' : Rho} (h : Le ρ ρ') : ∀ {t : Option Nat} {x : Value}, OwnRel ρ t x → OwnRel ρ' t x
  | none, _, e => e
  | some _, _, ⟨a, e1, e2⟩ => ⟨a, h.get e1, e2⟩
noncomputable def AO.Is (ρ : Rho) : AO → Obj → Prop
  | .lst vs, o => SeqRel ρ "list" vs o
  | .tup vs, o => SeqRel ρ "tuple" vs o
  | .ns m, o => ∃ es ep, o.data = .dict es ep ∧ StrKeys es ∧ es.size ≤ m.length ∧ ∀ x, OptRel ρ (m.lookup x) (nsFind es x)
  | .cell v, o => ∃ x, o.data = .cell x ∧ OptRel ρ v x
  | .inst C d, o => ∃ a sl, ρ[d]? = some a ∧ o = ⟨.ref C, some a, .plain, sl⟩
  | .fn f, o => FnRel ρ f o
  | .flds c vs, o => ∃ xs, o = { cls := .type c, data := .fields xs } ∧ VL ρ vs xs.toList
  | .iter c vs, o => o.cls = .type c ∧ ∃ xs, o.data = .fields xs ∧ VL ρ vs xs.toList
  | .enum own it i old, o => ∃ xo b y, OwnRel ρ own xo ∧ ρ[it]? = some b ∧ old.Rel ρ y ∧ o = { cls := .type "enumerate", data := .fields #[xo, .bool false, .ref b, rawInt i, .none, y] }
  | .dict, o => ∃ es ep, o.data = .dict es ep ∧ StrKeys es
  | .junk, _ => True
  | .bad, _ => False
theorem AO.Is.mono {ρ ρ' : Rho} (h : Le ρ ρ') : ∀ {v : AO} {x : Obj}, v.Is ρ x → v.Is ρ' x := by
  intro v x e
  induction v with
  | lst vs => obtain ⟨n, xs, b, c⟩ := e; exact ⟨n, xs, b, c.mono h⟩
  | tup vs => obtain ⟨n, xs, b, c⟩ := e; exact ⟨n, xs, b, c.mono h⟩
  | ns m => obtain ⟨es, ep, a, b, l, c⟩ := e; exact ⟨es, ep, a, b, l, fun x => (c x).mono h⟩
  | cell v => obtain ⟨a, b, c⟩ := e; exact ⟨a, b, c.mono h⟩
  | inst C d => obtain ⟨a, sl, b, c⟩ := e; exact ⟨a, sl, h.get b, c⟩
  | fn f =>
    obtain ⟨a, b, fd, c1, c2, c3, c4, c5, c6, c7, c8, c9, c10, c11⟩ := e
    refine ⟨a, ?_, fd, c1, c2, c3, c4, c5, c6, c7, c8, c9, c10, c11.mono h⟩
    cases hd : f.dict with
    | none => rw [hd] at b; cases hx : x.dict <;> rw [hx] at b <;> exact b
    | some i => rw [hd] at b; cases hx : x.dict <;> rw [hx] at b <;> first | exact b.elim | exact h.get b
  | flds c vs => obtain ⟨xs, a, b⟩ := e; exact ⟨xs, a, b.mono h⟩
  | iter c vs => obtain ⟨d, xs, a, b⟩ := e; exact ⟨d, xs, a, b.mono h⟩
  | enum own it i old => obtain ⟨xo, b, y, e1, e2, e3, e4⟩ := e; exact ⟨xo, b, y, e1.mono h, h.get e2, e3.mono h, e4⟩
  | dict => exact e
  | junk => exact e
  | bad => exact e

/-- a code record, which nothing ever changes -/
noncomputable def CodeLike (x : Obj) : Prop := x.cls = .type "code" ∧ ∃ vs q t, x.data = .fields vs ∧ vs[1]? = some (.str q t)
noncomputable def CodeAt (h : Heap) (c : Value) (q : Str) : Prop := ∃ a o vs t, c = .ref a ∧ h.get? a = some o ∧ o.cls = .type "code" ∧ o.data = .fields vs ∧ vs[1]? = some (.str q t)
theorem CodeAt.rec {h : Heap} {c : Value} {q : Str} (x : CodeAt h c q) : h.CodeRec c q := let ⟨a, o, vs, t, e, g, _, d, r⟩ := x; ⟨a, o, vs, t, e, g, d, r⟩
theorem CodeAt.keeps {h h' : Heap} {c : Value} {q : Str} (x : CodeAt h c q) (k : ∀ b o, h.get? b = some o → h'.get? b = some o) : CodeAt h' c q := let ⟨a, o, vs, t, e, g, r⟩ := x; ⟨a, o, vs, t, e, k _ _ g, r⟩
/-- what holds of a function's code in the heap -/
noncomputable def AO.Hp (h : Heap) : AO → Obj → Prop
  | .fn f, x => ∀ fd, x.data = .func fd → CodeAt h fd.code f.qual
  | _, _ => True
noncomputable def KeepCode (h h' : Heap) : Prop := ∀ b x, CodeLike x → h.get? b = some x → h'.get? b = some x
theorem KeepCode.rec {h h' : Heap} (k : KeepCode h h') {c : Value} {q : Str} (x : CodeAt h c q) : CodeAt h' c q := by
  obtain ⟨a, o, vs, t, e, g, l, d, r⟩ := x
  exact ⟨a, o, vs, t, e, k _ _ ⟨l, vs, q, t, d, r⟩ g, l, d, r⟩
theorem AO.Hp.keep {h h' : Heap} (k : KeepCode h h') {o : AO} {x : Obj} (e : o.Hp h x) : o.Hp h' x := by
  induction o <;> first | trivial | exact fun fd hd => k.rec (e fd hd)
noncomputable def AO.NoCode : AO → Prop
  | .flds c _ | .iter c _ => (c == "code") = false
  | .junk | .bad => False
  | _ => True
theorem AO.NoCode.not {ρ : Rho} {o : AO} (h : o.NoCode) {x : Obj} (e : o.Is ρ x) : ¬ CodeLike x := by
  rintro ⟨hc, ws, q, t, d, r⟩
  induction o with
  | lst vs => obtain ⟨n, xs, b, _⟩ := e; rw [b] at d; cases d
  | tup vs => obtain ⟨n, xs, b, _⟩ := e; rw [b] at d; cases d
  | ns m => obtain ⟨es, ep, b, _⟩ := e; rw [d] at b; cases b
  | cell v => obtain ⟨_, b, _⟩ := e; rw [d] at b; cases b
  | inst C i => obtain ⟨a, sl, _, b⟩ := e; rw [b] at d; cases d
  | fn f => obtain ⟨_, _, fd, b, _⟩ := e; rw [d] at b; cases b
  | flds c vs =>
    obtain ⟨xs, b, e⟩ := e
    rw [b] at hc
    injection hc with hc
    subst hc
    exact absurd (beq_self_eq_true "code") (by rw [show ("code" == "code") = false from h]; decide)
  | iter c vs =>
    obtain ⟨b, _⟩ := e
    rw [b] at hc
    injection hc with hc
    subst hc
    exact absurd (beq_self_eq_true "code") (by rw [show ("code" == "code") = false from h]; decide)
  | enum own it i old =>
    obtain ⟨xo, b, y, _, _, _, e4⟩ := e
    rw [e4] at hc
    injection hc with hc
    exact absurd hc (by decide)
  | dict => obtain ⟨es, ep, b, _⟩ := e; rw [d] at b; cases b
  | junk => exact h
  | bad => exact h

/-- what stays: the objects that nobody changes, and the addresses of the tables of codes -/
structure Bs where
  heap : Heap
  tabs : List Addr
  qn : Addr → Str
noncomputable abbrev Bs.get? (B : Bs) (a : Addr) : Option Obj := B.heap.get? a
theorem nodup_inj {l : List Addr} (h : l.Nodup) {i j : Nat} {a : Addr} (hi : l[i]? = some a) (hj : l[j]? = some a) : i = j := by
  obtain ⟨l1, e1⟩ := List.getElem?_eq_some_iff.mp hi
  obtain ⟨l2, e2⟩ := List.getElem?_eq_some_iff.mp hj
  have p := List.pairwise_iff_getElem.mp h
  rcases Nat.lt_trichotomy i j with q | q | q
  · exact absurd (e1.trans e2.symm) (p i j l1 l2 q)
  · exact q
  · exact absurd (e2.trans e1.symm) (p j i l2 l1 q)

/-! ## the state -/
structure HS (B : Bs) (ρ : Rho) (H : List AO) (h : Heap) : Prop where
  keep : ∀ a x, B.get? a = some x → h.get? a = some x
  len : ρ.length = H.length
  nodup : ρ.Nodup
  fresh : ∀ a ∈ ρ, B.get? a = none
  ent : ∀ (i : Nat) (a : Addr) (o : AO), ρ[i]? = some a → H[i]? = some o → ∃ x, h.get? a = some x ∧ o.Is ρ x ∧ o.Hp h x
  tabs : ∀ P ∈ B.tabs, P ∉ ρ ∧ B.get? P = none ∧ ∃ xs, h.get? P = some (tabObj xs) ∧ TriplesOk xs.toList ∧ ∀ pos c, codeAmong pos xs.toList = some c → CodeAt h c (B.qn P)

structure Room (A : Around) (n : Nat) : Prop where
  hd : A.handled = none
  dp : A.depth + 3 * n < 980
  un : A.units + 10 * n < 9800

structure Post (B : Bs) (ρ : Rho) (s s' : Shared) (ρ' : Rho) (H' : List AO) : Prop where
  hs : HS B ρ' H' s'.heap
  le : Le ρ ρ'
  new : ∀ a ∈ ρ', a ∉ ρ → s.heap.get? a = none
  keep : ∀ a x, s.heap.get? a = some x → a ∉ ρ → a ∉ B.tabs → s'.heap.get? a = some x
  kc : KeepCode s.heap s'.heap
  os : (s'.os, s'.drawn) = (s.os, s.drawn)
  gens : s'.gens = s.gens

theorem HS.tabs_not {B : Bs} {ρ : Rho} {H : List AO} {h : Heap} (hs : HS B ρ H h) {a : Addr} (ha : a ∈ ρ) : a ∉ B.tabs := fun q => (hs.tabs a q).1 ha
theorem Post.trans {B : Bs} {ρ ρ₁ ρ₂ : Rho} {H₁ H₂ : List AO} {s s₁ s₂ : Shared} (p : Post B ρ s s₁ ρ₁ H₁) (q : Post B ρ₁ s₁ s₂ ρ₂ H₂) : Post B ρ s s₂ ρ₂ H₂ where
  hs := q.hs
  le := p.le.trans q.le
  new := fun a ha hn => by
    by_cases h1 : a ∈ ρ₁
    · exact p.new a h1 hn
    · have h2 := q.new a ha h1
      cases h3 : s.heap.get? a with
      | none => rfl
      | some x => rw [p.keep a x h3 hn (q.hs.tabs_not ha)] at h2; cases h2
  keep := fun a x e hn ht => by
    have e1 := p.keep a x e hn ht
    refine q.keep a x e1 (fun hm => ?_) ht
    have := p.new a hm hn
    rw [e] at this; cases this
  kc := fun b x c e => q.kc b x c (p.kc b x c e)
  os := q.os.trans p.os
  gens := q.gens.trans p.gens

/-- the run's constants -/
structure Wd where
  prog : Program
  w : World
  B : Bs
noncomputable abbrev Wd.M (W : Wd) : Model := model W.prog W.w

noncomputable def Tri {α : Type} (W : Wd) (n : Nat) (ρ : Rho) (H : List AO) (m : Sem α) (Q : Rho → List AO → α → Prop) : Prop :=
  ∀ A s, Room A n → HS W.B ρ H s.heap → s.gens = #[] →
    wpAny W.M A m (fun a s' => ∃ ρ' H', Post W.B ρ s s' ρ' H' ∧ Q ρ' H' a) (fun _ _ => False) s

section
variable {W : Wd} {B : Bs} {α β : Type} {n : Nat} {ρ : Rho} {H : List AO}

theorem Post.refl {s : Shared} (h : HS B ρ H s.heap) : Post B ρ s s ρ H := ⟨h, .refl _, fun _ h1 h2 => absurd h1 h2, fun _ _ e _ _ => e, fun _ _ _ e => e, rfl, rfl⟩
theorem Post.toks {s s' : Shared} (h : HS B ρ H s.heap) (e : s'.heap = s.heap) (e1 : (s'.os, s'.drawn) = (s.os, s.drawn)) (e2 : s'.gens = s.gens) : Post B ρ s s' ρ H :=
  ⟨e ▸ h, .refl _, fun _ h1 h2 => absurd h1 h2, fun _ _ x _ _ => by rw [e]; exact x, fun _ _ _ x => by rw [e]; exact x, e1, e2⟩

theorem Tri.mono {m : Sem α} {Q Q' : Rho → List AO → α → Prop} (h : Tri W n ρ H m Q) (k : ∀ ρ' H' a, Le ρ ρ' → Q ρ' H' a → Q' ρ' H' a) : Tri W n ρ H m Q' :=
  fun A s r hs g => wpAny_mono (h A s r hs g) (fun _ _ ⟨ρ', H', p, q⟩ => ⟨ρ', H', p, k _ _ _ p.le q⟩) fun _ _ e => e
theorem Tri.le {m : Sem α} {Q : Rho → List AO → α → Prop} {n' : Nat} (h : Tri W n ρ H m Q) (l : n ≤ n') : Tri W n' ρ H m Q :=
  fun A s r hs g => h A s ⟨r.hd, by have := r.dp; lia, by have := r.un; lia⟩ hs g
theorem Tri.pur {a : α} {Q : Rho → List AO → α → Prop} (h : Q ρ H a) : Tri W n ρ H (Pure.pure a) Q :=
  fun _ _ _ hs _ => wpAny_pure ⟨ρ, H, .refl hs, h⟩
theorem Tri.bind {m : Sem α} {f : α → Sem β} {Q : Rho → List AO → α → Prop} {Q' : Rho → List AO → β → Prop} (h : Tri W n ρ H m Q)
    (k : ∀ ρ₁ H₁ a, Le ρ ρ₁ → Q ρ₁ H₁ a → Tri W n ρ₁ H₁ (f a) Q') : Tri W n ρ H (m >>= f) Q' := fun A s r hs g => by
  refine wpAny_bind (wpAny_mono (h A s r hs g) (fun a s₁ ⟨ρ₁, H₁, p, q⟩ => ?_) fun _ _ e => e)
  refine wpAny_mono (k ρ₁ H₁ a p.le q A s₁ r p.hs (p.gens.trans g)) (fun b s₂ ⟨ρ₂, H₂, p₂, q₂⟩ => ⟨ρ₂, H₂, p.trans p₂, q₂⟩) fun _ _ e => e
theorem Tri.holding {vs : List Value} {m : Sem α} {Q : Rho → List AO → α → Prop} (h : Tri W n ρ H m Q) : Tri W n ρ H (PySem.holding vs m) Q :=
  fun A s r hs g => wpAny_holding (h A s r hs g)
theorem Tri.onRaise {m : Sem α} {k : Value → Sem Unit} {Q : Rho → List AO → α → Prop} (h : Tri W n ρ H m Q) : Tri W n ρ H (m.onRaise k) Q :=
  fun A s r hs g => wpAny_onRaise (wpAny_mono (h A s r hs g) (fun _ _ x => x) fun _ _ x => x.elim)
theorem Tri.attempt {m : Sem α} {Q : Rho → List AO → Except Value α → Prop} (h : Tri W n ρ H m fun ρ' H' a => Q ρ' H' (.ok a)) : Tri W n ρ H m.attempt Q :=
  fun A s r hs g => wpAny_attempt (wpAny_mono (h A s r hs g) (fun _ _ x => x) fun _ _ x => x.elim)
theorem Tri.standAt {pos : Pos} {Q : Rho → List AO → Unit → Prop} (h : Q ρ H ()) : Tri W n ρ H (PySem.standAt pos) Q :=
  fun _ _ _ hs _ => wpAny_standAt ⟨ρ, H, .refl hs, h⟩
theorem Tri.point {Q : Rho → List AO → Unit → Prop} (h : Q ρ H ()) : Tri W n ρ H PySem.point Q :=
  fun _ _ _ hs _ => wpAny_point ⟨ρ, H, .refl hs, h⟩
theorem Tri.rule {t : String} {Q : Rho → List AO → Unit → Prop} (h : Q ρ H ()) : Tri W n ρ H (PySem.rule t) Q :=
  fun _ _ _ hs _ => wpAny_rule ⟨ρ, H, .refl hs, h⟩
/-- a step that turns nothing but the counter -/
theorem Tri.quiet {m : Sem α} {Q : Rho → List AO → α → Prop}
    (h : ∀ A (s : Shared), Room A n → HS W.B ρ H s.heap → s.gens = #[] → wpAny (W.M) A m (fun a s' => s'.heap = s.heap ∧ (s'.os, s'.drawn) = (s.os, s.drawn) ∧ s'.gens = s.gens ∧ Q ρ H a) (fun _ _ => False) s) : Tri W n ρ H m Q :=
  fun A s r hs g => wpAny_mono (h A s r hs g) (fun _ _ ⟨e, e1, e2, q⟩ => ⟨ρ, H, .toks hs e e1 e2, q⟩) fun _ _ e => e
theorem Tri.mkInt {i : Int} {Q : Rho → List AO → Value → Prop} (h : ∀ t, Q ρ H (.int i t)) : Tri W n ρ H (PySem.mkInt i) Q :=
  .quiet fun _ _ _ _ _ => wpAny_mkInt ⟨rfl, rfl, rfl, h _⟩
theorem Tri.mkText {x : Str} {Q : Rho → List AO → Value → Prop} (h : ∀ t, Q ρ H (.str x t)) : Tri W n ρ H (PySem.mkText x) Q :=
  .quiet fun _ _ _ _ _ => wpAny_mkText ⟨rfl, rfl, rfl, h _⟩
theorem Tri.mkFloat {x : UInt64} {Q : Rho → List AO → Value → Prop} (h : ∀ t, Q ρ H (.float x t)) : Tri W n ρ H (PySem.mkFloat x) Q :=
  .quiet fun _ _ _ _ _ => wpAny_mkFloat ⟨rfl, rfl, rfl, h _⟩
theorem Tri.ask {Q : Rho → List AO → Setting → Prop} (h : Q ρ H ⟨W.prog, W.w.params⟩) : Tri W n ρ H PySem.ask Q :=
  .quiet fun _ _ _ _ _ => wpAny_askSetting ⟨rfl, rfl, rfl, h⟩
theorem Tri.load {i : Nat} {a : Addr} {o : AO} {Q : Rho → List AO → Obj → Prop} (ha : ρ[i]? = some a) (ho : H[i]? = some o) (h : ∀ x, o.Is ρ x → Q ρ H x) : Tri W n ρ H (PySem.load a) Q :=
  .quiet fun _ _ _ hs _ => let ⟨x, e, k, _⟩ := hs.ent i a o ha ho; wpAny_load e ⟨rfl, rfl, rfl, h x k⟩
theorem Tri.loadPart {i : Nat} {a : Addr} {part : Option Value} {o : AO} {Q : Rho → List AO → Obj → Prop} (ha : ρ[i]? = some a) (ho : H[i]? = some o) (h : ∀ x, o.Is ρ x → Q ρ H x) : Tri W n ρ H (PySem.loadPart a part) Q :=
  .quiet fun _ _ _ hs _ => let ⟨x, e, k, _⟩ := hs.ent i a o ha ho; wpAny_loadPart e ⟨rfl, rfl, rfl, h x k⟩

/-! heap changes -/
theorem HS.lt {h : Heap} (hs : HS B ρ H h) {a : Addr} (ha : a ∈ ρ) : a < h.objs.size := by
  obtain ⟨i, hi, e⟩ := List.getElem_of_mem ha
  have hH : i < H.length := hs.len ▸ hi
  obtain ⟨x, ex, _⟩ := hs.ent i a H[i] (by rw [List.getElem?_eq_getElem hi, e]) (List.getElem?_eq_getElem hH)
  exact Heap.lt_size ex
theorem HS.push {h : Heap} (hs : HS B ρ H h) {x : Obj} {o : AO} (hf : x.isFreed = false) (ho : o.Is (ρ ++ [h.objs.size]) x) (hp : o.Hp (h.push x) x) : HS B (ρ ++ [h.objs.size]) (H ++ [o]) (h.push x) where
  keep := fun a y e => Heap.get?_push_of_some _ (hs.keep a y e)
  len := by simp [hs.len]
  nodup := by
    rw [List.nodup_append]
    refine ⟨hs.nodup, by simp, fun a ha b hb => ?_⟩
    rw [List.mem_singleton.mp hb]
    exact Nat.ne_of_lt (hs.lt ha)
  fresh := fun a ha => by
    rcases List.mem_append.mp ha with ha | ha
    · exact hs.fresh a ha
    · rw [List.mem_singleton.mp ha]
      cases e : B.get? h.objs.size with
      | none => rfl
      | some y => exact absurd (Heap.lt_size (hs.keep _ _ e)) (Nat.lt_irrefl _)
  ent := fun i a o' ha ho' => by
    by_cases hi : i < ρ.length
    · rw [List.getElem?_append_left hi] at ha
      rw [List.getElem?_append_left (hs.len ▸ hi)] at ho'
      obtain ⟨y, e, k, kp⟩ := hs.ent i a o' ha ho'
      exact ⟨y, Heap.get?_push_of_some _ e, k.mono (.snoc _ _), kp.keep fun _ _ _ e => Heap.get?_push_of_some _ e⟩
    · have hi' : i = ρ.length := by
        have := (List.getElem?_eq_some_iff.mp ha).1
        simp at this; lia
      subst hi'
      rw [List.getElem?_append_right (Nat.le_refl _)] at ha
      rw [hs.len, List.getElem?_append_right (Nat.le_refl _)] at ho'
      simp at ha ho'
      subst ha ho'
      exact ⟨x, Heap.get?_push_size _ hf, ho, hp⟩
  tabs := fun P hP => by
    obtain ⟨h1, h2, xs, h3, h4, h5⟩ := hs.tabs P hP
    refine ⟨fun q => ?_, h2, xs, Heap.get?_push_of_some _ h3, h4, fun pos c e => (h5 pos c e).keeps fun _ _ e => Heap.get?_push_of_some _ e⟩
    rcases List.mem_append.mp q with q | q
    · exact h1 q
    · rw [List.mem_singleton.mp q] at h3
      exact absurd (Heap.lt_size h3) (Nat.lt_irrefl _)
theorem HS.set {h h' : Heap} (hs : HS B ρ H h) {i : Nat} {a : Addr} {o : AO} {x : Obj} (ha : ρ[i]? = some a) (hb : Heap.SameBut a h h') (hx : h'.get? a = some x) (ho : o.Is ρ x) (hp : o.Hp h' x) (kc : KeepCode h h') : HS B ρ (H.set i o) h' where
  keep := fun b y e => by
    have hne : b ≠ a := fun q => by
      have := hs.fresh a (List.mem_of_getElem? ha)
      rw [← q, e] at this; cases this
    exact (hb.2 b hne).trans (hs.keep b y e)
  len := by simp [hs.len]
  nodup := hs.nodup
  fresh := hs.fresh
  ent := fun j b o' hb' ho' => by
    by_cases hj : j = i
    · subst hj
      rw [ha] at hb'; cases hb'
      have hl : j < H.length := by have := (List.getElem?_eq_some_iff.mp ha).1; rw [hs.len] at this; exact this
      rw [List.getElem?_set_self hl] at ho'
      cases ho'
      exact ⟨x, hx, ho, hp⟩
    · rw [List.getElem?_set_ne (Ne.symm hj)] at ho'
      obtain ⟨y, e, k, kp⟩ := hs.ent j b o' hb' ho'
      have hne : b ≠ a := fun q => by
        subst q
        exact hj (nodup_inj hs.nodup hb' ha)
      exact ⟨y, (hb.2 b hne).trans e, k, kp.keep kc⟩
  tabs := fun P hP => by
    obtain ⟨h1, h2, xs, h3, h4, h5⟩ := hs.tabs P hP
    have hne : P ≠ a := fun q => h1 (q ▸ List.mem_of_getElem? ha)
    exact ⟨h1, h2, xs, (hb.2 P hne).trans h3, h4, fun pos c e => kc.rec (h5 pos c e)⟩
theorem HS.grow {h h' : Heap} (hs : HS B ρ H h) (k : ∀ b x, h.get? b = some x → h'.get? b = some x) : HS B ρ H h' :=
  ⟨fun a x e => k _ _ (hs.keep a x e), hs.len, hs.nodup, hs.fresh, fun i a o h1 h2 => let ⟨x, e, y, z⟩ := hs.ent i a o h1 h2; ⟨x, k _ _ e, y, z.keep fun b x _ e => k b x e⟩,
    fun P hP => let ⟨h1, h2, xs, h3, h4, h5⟩ := hs.tabs P hP; ⟨h1, h2, xs, k _ _ h3, h4, fun pos c e => (h5 pos c e).keeps k⟩⟩
theorem Post.push {s : Shared} (hs : HS B ρ H s.heap) {x : Obj} {o : AO} {t : Nat} (hf : x.isFreed = false) (ho : o.Is (ρ ++ [s.heap.objs.size]) x) (hp : o.Hp (s.heap.push x) x) :
    Post B ρ s { s with heap := s.heap.push x, toks := t } (ρ ++ [s.heap.objs.size]) (H ++ [o]) where
  hs := hs.push hf ho hp
  le := .snoc _ _
  new := fun a ha hn => by
    rcases List.mem_append.mp ha with ha | ha
    · exact absurd ha hn
    · rw [List.mem_singleton.mp ha]
      cases e : s.heap.get? s.heap.objs.size with
      | none => rfl
      | some y => exact absurd (Heap.lt_size e) (Nat.lt_irrefl _)
  keep := fun a y e _ _ => Heap.get?_push_of_some _ e
  kc := fun a y _ e => Heap.get?_push_of_some _ e
  os := rfl
  gens := rfl
theorem keepCode_of_set {h h' : Heap} {a : Addr} {y : Obj} (hb : Heap.SameBut a h h') (hy : h.get? a = some y) (hn : ¬ CodeLike y) : KeepCode h h' := fun b x c e => by
  by_cases q : b = a
  · subst q; rw [hy] at e; cases e; exact absurd c hn
  · exact (hb.2 b q).trans e
theorem Post.set {s s' : Shared} (hs : HS B ρ H s.heap) {i : Nat} {a : Addr} {o : AO} {x : Obj} (ha : ρ[i]? = some a) (hb : Heap.SameBut a s.heap s'.heap) (hx : s'.heap.get? a = some x) (ho : o.Is ρ x) (hp : o.Hp s'.heap x) (kc : KeepCode s.heap s'.heap)
    (e1 : (s'.os, s'.drawn) = (s.os, s.drawn)) (e2 : s'.gens = s.gens) : Post B ρ s s' ρ (H.set i o) where
  hs := hs.set ha hb hx ho hp kc
  le := .refl _
  new := fun _ h1 h2 => absurd h1 h2
  keep := fun b y e hn _ => (hb.2 b fun q => hn (q ▸ List.mem_of_getElem? ha)).trans e
  kc := kc
  os := e1
  gens := e2
theorem Post.grow {s s' : Shared} (hs : HS B ρ H s.heap) (k : ∀ b x, s.heap.get? b = some x → s'.heap.get? b = some x) (e1 : (s'.os, s'.drawn) = (s.os, s.drawn)) (e2 : s'.gens = s.gens) : Post B ρ s s' ρ H :=
  ⟨hs.grow k, .refl _, fun _ h1 h2 => absurd h1 h2, fun a x e _ _ => k a x e, fun a x _ e => k a x e, e1, e2⟩
theorem Tri.alloc {x : Obj} (o : AO) {Q : Rho → List AO → Addr → Prop} (hf : x.isFreed = false) (ho : ∀ a, o.Is (ρ ++ [a]) x) (h : ∀ a, Q (ρ ++ [a]) (H ++ [o]) a) (hp : ∀ h x, o.Hp h x := by intro _ _; trivial) : Tri W n ρ H (PySem.alloc x) Q :=
  fun _ s _ hs _ => wpAny_alloc ⟨_, _, Post.push (t := s.toks) hs hf (ho _) (hp _ _), h _⟩
theorem Tri.update {i : Nat} {a : Addr} {f : Obj → Obj} {o o' : AO} {Q : Rho → List AO → Unit → Prop} (ha : ρ[i]? = some a) (ho : H[i]? = some o) (k : ∀ x, o.Is ρ x → (f x).isFreed = false ∧ o'.Is ρ (f x)) (h : Q ρ (H.set i o') ()) (hn : o.NoCode := by trivial) (hp : ∀ h x, o'.Hp h x := by intro _ _; trivial) :
    Tri W n ρ H (PySem.update a f) Q := fun _ s _ hs _ =>
  let ⟨x, e, y, _⟩ := hs.ent i a o ha ho
  wpAny_update e ⟨_, _, Post.set (s' := { s with heap := s.heap.update a f }) hs ha (.update ..) (by first | exact Heap.get?_update_self f e (k x y).1 | exact Heap.get?_update_self _ e (k x y).1) (k x y).2 (hp _ _) (keepCode_of_set (.update ..) e (hn.not y)) rfl rfl, h⟩
theorem Tri.updatePart {i : Nat} {a : Addr} {part : Option Value} {f : Obj → Obj} {o o' : AO} {Q : Rho → List AO → Unit → Prop} (ha : ρ[i]? = some a) (ho : H[i]? = some o) (k : ∀ x, o.Is ρ x → (f x).isFreed = false ∧ o'.Is ρ (f x)) (h : Q ρ (H.set i o') ()) (hn : o.NoCode := by trivial) (hp : ∀ h x, o'.Hp h x := by intro _ _; trivial) :
    Tri W n ρ H (PySem.updatePart a part f) Q := fun _ s _ hs _ =>
  let ⟨x, e, y, _⟩ := hs.ent i a o ha ho
  wpAny_updatePart e ⟨_, _, Post.set (s' := { s with heap := s.heap.update a f }) hs ha (.update ..) (by first | exact Heap.get?_update_self f e (k x y).1 | exact Heap.get?_update_self _ e (k x y).1) (k x y).2 (hp _ _) (keepCode_of_set (.update ..) e (hn.not y)) rfl rfl, h⟩
noncomputable def Same {α : Type} (ρ : Rho) (H : List AO) (P : α → Prop) : Rho → List AO → α → Prop := fun ρ' H' a => ρ' = ρ ∧ H' = H ∧ P a
theorem Tri.bindS {m : Sem α} {f : α → Sem β} (P : α → Prop) {Q' : Rho → List AO → β → Prop} (h : Tri W n ρ H m (Same ρ H P)) (k : ∀ a, P a → Tri W n ρ H (f a) Q') : Tri W n ρ H (m >>= f) Q' :=
  Tri.bind h fun ρ₁ H₁ a _ ⟨e1, e2, e3⟩ => by subst e1 e2; exact k a e3
theorem Tri.withLen {m : Sem α} {Q : Rho → List AO → α → Prop} (h : ρ.length = H.length → Tri W n ρ H m Q) : Tri W n ρ H m Q :=
  fun A s r hs g => h hs.len A s r hs g
theorem Tri.same {m : Sem α} {P : α → Prop} (h : ∀ A (s : Shared), Room A n → HS W.B ρ H s.heap → s.gens = #[] → wpAny W.M A m (fun a s' => s'.heap = s.heap ∧ (s'.os, s'.drawn) = (s.os, s.drawn) ∧ s'.gens = s.gens ∧ P a) (fun _ _ => False) s) : Tri W n ρ H m (Same ρ H P) :=
  .quiet fun A s r hs g => wpAny_mono (h A s r hs g) (fun _ _ ⟨e, e1, e2, q⟩ => ⟨e, e1, e2, rfl, rfl, q⟩) fun _ _ e => e
end
end Mine

-- FILE A2
open PySem PySem.W PyProof.Rows
set_option Elab.async false
set_option autoImplicit false
namespace Mine

/-! ## names -/
noncomputable def put (x : Str) (v : V) : List (Str × V) → List (Str × V)
  | [] => [(x, v)]
  | (y, u) :: r => if y = x then (y, v) :: r else (y, u) :: put x v r
theorem put_z {x : Str} {v : V} : put x v [] = [(x, v)] := rfl
theorem put_c {x y : Str} {v u : V} {r : List (Str × V)} : put x v ((y, u) :: r) = if y = x then (y, v) :: r else (y, u) :: put x v r := rfl
theorem lookup_put (x : Str) (v : V) (y : Str) : ∀ m : List (Str × V), (put x v m).lookup y = if y = x then some v else m.lookup y
  | [] => by
    by_cases h : y = x
    · subst h; simp [put_z]
    · have : (y == x) = false := beq_eq_false_iff_ne.mpr h
      simp [put_z, h, List.lookup, this]
  | (z, u) :: r => by
    rw [put_c]
    by_cases hz : z = x
    · subst hz
      rw [if_pos rfl]
      by_cases h : y = z
      · subst h; simp
      · have : (y == z) = false := beq_eq_false_iff_ne.mpr h
        simp [List.lookup, this, h]
    · rw [if_neg hz]
      by_cases h : y = z
      · subst h
        simp [hz]
      · have h' : (y == z) = false := beq_eq_false_iff_ne.mpr h
        simp only [List.lookup, h']
        exact lookup_put x v y r
theorem length_put (x : Str) (v : V) : ∀ m : List (Str × V), (put x v m).length = if (m.lookup x).isSome then m.length else m.length + 1
  | [] => rfl
  | (z, u) :: r => by
    rw [put_c]
    by_cases hz : z = x
    · subst hz; simp
    · have h' : (x == z) = false := beq_eq_false_iff_ne.mpr (Ne.symm hz)
      rw [if_neg hz]
      simp only [List.length_cons, List.lookup, h', length_put x v r]
      split <;> rfl
theorem noRef {es : Array DictEntry} (hk : StrKeys es) : es.any (·.refKey) = false := by
  rw [Array.any_eq_false']; intro e he; obtain ⟨n, t, h⟩ := hk e he; simp [DictEntry.refKey, h]
theorem findIdx_none {es : Array DictEntry} {x : Str} : es.findIdx? (fun e => e.key.isStr x) = none ↔ nsFind es x = none := by
  unfold nsFind
  rw [findBy_of_findIdx? (fun (n : Str) v => v.isStr n)]
  cases h : es.findIdx? (fun e => e.key.isStr x) with
  | none => simp
  | some i =>
    have hl : i < es.size := (Array.findIdx?_eq_some_iff_getElem.mp h).1
    simp [Array.getElem?_eq_getElem hl]
theorem OptRel.isSome {ρ : Rho} {v : Option V} {x : Option Value} (h : OptRel ρ v x) : v.isSome = x.isSome := by
  induction v <;> induction x <;> first | rfl | exact h.elim
theorem putName_is {ρ : Rho} {m : List (Str × V)} {o : Obj} {name : Str} {hsh : Int} {t : Tok} {v : V} {x : Value} (h : (AO.ns m).Is ρ o) (hv : v.Rel ρ x) :
    (Obj.putName name hsh (.str name t) x o).isFreed = false ∧ (AO.ns (put name v m)).Is ρ (Obj.putName name hsh (.str name t) x o) := by
  obtain ⟨es, ep, hd, hk, hz, hm⟩ := h
  obtain ⟨c, d, dt, sl⟩ := o
  simp only at hd
  subst hd
  have key : ∀ {es' : Array DictEntry} {ep' : Nat}, StrKeys es' → es'.size ≤ (put name v m).length → (∀ y, nsFind es' y = if y = name then some x else nsFind es y) →
      (AO.ns (put name v m)).Is ρ ⟨c, d, .dict es' ep', sl⟩ := fun {es' ep'} k l f => by
    refine ⟨es', ep', rfl, k, l, fun y => ?_⟩
    rw [lookup_put, f]
    by_cases hy : y = name
    · rw [if_pos hy, if_pos hy]; exact hv
    · rw [if_neg hy, if_neg hy]; exact hm y
  rw [Obj.putName_eq]
  cases hi : es.findIdx? (·.key.isStr name) with
  | some i =>
    have e : Obj.putNameByArray name hsh (.str name t) x ⟨c, d, .dict es ep, sl⟩ = ⟨c, d, .dict (es.modify i fun e => { e with val := x }) ep, sl⟩ := by simp only [Obj.putNameByArray, hi]
    rw [e]
    refine ⟨rfl, key (hk.modify _ _) ?_ fun y => findBy_modify (fun (n : Str) v => v.isStr n) Value.isStr_inj es name y x i hi⟩
    rw [Array.size_modify, length_put]
    split <;> lia
  | none =>
    have e : Obj.putNameByArray name hsh (.str name t) x ⟨c, d, .dict es ep, sl⟩ = ⟨c, d, .dict (es.push ⟨hsh, .str name t, x⟩) (ep + 1), sl⟩ := by simp only [Obj.putNameByArray, hi]
    rw [e]
    refine ⟨rfl, key (hk.push _ _ _ _) ?_ fun y => findBy_push (fun (n : Str) v => v.isStr n) es name y _ _ x (fun z => ?_) hi⟩
    · rw [Array.size_push, length_put]
      have h1 := (hm name).isSome
      rw [findIdx_none.mp hi] at h1
      rw [h1]
      simpa using hz
    · show (name == z) = decide (z = name)
      by_cases h : z = name
      · subst h; simp
      · have : ¬ name = z := fun e => h e.symm
        simp [h, this]

/-! ## the frame -/
structure AE where
  scope : Scope
  loc : Nat
  cells : List (Str × Nat)
  qual : Str
  code : Option Addr

noncomputable def CodeIs : Option Addr → Value → Prop
  | some a, x => x = .ref a
  | none, _ => True
structure EnvIs (ρ : Rho) (ae : AE) (env : Env) : Prop where
  scope : env.scope = ae.scope
  loc : ρ[ae.loc]? = some env.locals
  gl : env.globals = mainGlobals
  bl : env.builtins = builtinsNs
  cells : CellsRel ρ ae.cells env.cells
  qual : env.qual = ae.qual
  code : CodeIs ae.code env.code
theorem EnvIs.mono {ρ ρ' : Rho} {ae : AE} {env : Env} (h : EnvIs ρ ae env) (l : Le ρ ρ') : EnvIs ρ' ae env :=
  ⟨h.scope, l.get h.loc, h.gl, h.bl, h.cells.mono l, h.qual, h.code⟩
theorem CellsRel.lookup {ρ : Rho} {x : Str} {i : Nat} : ∀ {vs : List (Str × Nat)} {xs : List (Str × Addr)}, CellsRel ρ vs xs → vs.lookup x = some i → ∃ a, xs.lookup x = some a ∧ ρ[i]? = some a
  | [], [], _, h => by simp at h
  | (n, j) :: vs, (m, a) :: xs, e, h => by
    obtain ⟨e1, e2, e3⟩ := e
    subst e1
    by_cases hx : (x == n) = true
    · simp only [List.lookup_cons, hx] at h ⊢
      cases h; exact ⟨a, rfl, e2⟩
    · simp only [List.lookup_cons, hx] at h ⊢
      exact CellsRel.lookup e3 h
  | [], _ :: _, e, _ => e.elim
  | _ :: _, [], e, _ => e.elim

structure Base (W : Wd) (gl : Str → Option Value) : Prop where
  g : W.B.heap.Ns mainGlobals gl
  b : ∃ bl, W.B.heap.Ns builtinsNs bl ∧ ∀ x : Str, x ≠ "__name__" → bl x = bootBuiltins x
  nolimit : W.B.heap.NoLimit
  mod : ∃ bm o, gl "__builtins__" = some (.ref bm) ∧ bm ≠ builtinsNs ∧ W.B.get? bm = some o ∧ o.cls = .type "module" ∧ o.dict = some builtinsNs ∧ o.data = .plain

inductive Fl where
  | next | brk | cont
  | ret (v : V)
noncomputable def Fl.Rel (ρ : Rho) : Fl → Flow → Prop
  | .next, f => f = .next
  | .brk, f => f = .brk
  | .cont, f => f = .cont
  | .ret v, f => ∃ x, f = .ret x ∧ v.Rel ρ x

noncomputable def Val (Q : V → List AO → Prop) : Rho → List AO → Value → Prop := fun ρ H x => ∃ v : V, v.Rel ρ x ∧ Q v H
noncomputable def Vals (Q : List V → List AO → Prop) : Rho → List AO → List Value → Prop := fun ρ H x => ∃ v, VL ρ v x ∧ Q v H
noncomputable def Flw (Q : Fl → List AO → Prop) : Rho → List AO → Flow → Prop := fun ρ H x => ∃ v : Fl, v.Rel ρ x ∧ Q v H
noncomputable def Opt (Q : Option V → List AO → Prop) : Rho → List AO → Option Value → Prop := fun ρ H x => ∃ v, OptRel ρ v x ∧ Q v H

section
variable (W : Wd) (n : Nat)
noncomputable def Ev (ae : AE) (H : List AO) (e : Expr) (Q : V → List AO → Prop) : Prop := ∀ ρ env, EnvIs ρ ae env → Tri W n ρ H (eval e env) (Val Q)
noncomputable def EvT (ae : AE) (H : List AO) (e : Expr) (Q : Bool → List AO → Prop) : Prop := ∀ ρ env, EnvIs ρ ae env → Tri W n ρ H (isTrue e env (eval e env)) (fun _ H' b => Q b H')
noncomputable def EvL (ae : AE) (H : List AO) (es : List Expr) (Q : List V → List AO → Prop) : Prop := ∀ ρ env pos, EnvIs ρ ae env → Tri W n ρ H (spliced (backTo pos (starEach es env))) (Vals Q)
noncomputable def EvK (ae : AE) (H : List AO) (ks : List Keyword) (Q : List V → List AO → Prop) : Prop := ∀ ρ env pos, EnvIs ρ ae env → Tri W n ρ H (evalAll ((backToKw pos (keywordEach ks env)).map (·.2))) (Vals Q)
noncomputable def Ex (ae : AE) (H : List AO) (st : Stmt) (Q : Fl → List AO → Prop) : Prop := ∀ ρ env, EnvIs ρ ae env → Tri W n ρ H (exec st env) (Flw Q)
noncomputable def Exs (ae : AE) (H : List AO) (st : List Stmt) (Q : Fl → List AO → Prop) : Prop := ∀ ρ env, EnvIs ρ ae env → Tri W n ρ H (execs st env) (Flw Q)
noncomputable def Asg (ae : AE) (H : List AO) (t : Expr) (v : V) (Q : List AO → Prop) : Prop := ∀ ρ env x, EnvIs ρ ae env → v.Rel ρ x → Tri W n ρ H (assign t env x) (fun _ H' _ => Q H')
noncomputable def Ld (ae : AE) (H : List AO) (x : Str) (Q : V → List AO → Prop) : Prop := ∀ ρ env, EnvIs ρ ae env → Tri W n ρ H (loadName env x) (Val Q)
noncomputable def St (ae : AE) (H : List AO) (x : Str) (v : V) (Q : List AO → Prop) : Prop := ∀ ρ env y, EnvIs ρ ae env → v.Rel ρ y → Tri W n ρ H (storeName env x y) (fun _ H' _ => Q H')
noncomputable def Bin (H : List AO) (op : Operator) (a b : V) (Q : V → List AO → Prop) : Prop := ∀ ρ x y, a.Rel ρ x → b.Rel ρ y → Tri W n ρ H (binaryOp op x y) (Val Q)
noncomputable def InP (H : List AO) (op : Operator) (a b : V) (Q : V → List AO → Prop) : Prop := ∀ ρ x y, a.Rel ρ x → b.Rel ρ y → Tri W n ρ H (inplaceOp op x y) (Val Q)
noncomputable def Un (H : List AO) (op : UnaryOp) (a : V) (Q : V → List AO → Prop) : Prop := ∀ ρ x, a.Rel ρ x → Tri W n ρ H (unaryOp op x) (Val Q)
noncomputable def Cmp (H : List AO) (op : CmpOp) (a b : V) (Q : V → List AO → Prop) : Prop := ∀ ρ x y, a.Rel ρ x → b.Rel ρ y → Tri W n ρ H (compareOp op x y) (Val Q)
noncomputable def Tru (H : List AO) (a : V) (Q : Bool → List AO → Prop) : Prop := ∀ ρ x, a.Rel ρ x → Tri W n ρ H (truthy x) (fun _ H' b => Q b H')
noncomputable def Cl (H : List AO) (f : V) (as : List V) (kn : List Str) (kv : List V) (Q : V → List AO → Prop) : Prop :=
  ∀ ρ x xs ys, f.Rel ρ x → VL ρ as xs → VL ρ kv ys → Tri W n ρ H (call x xs (kn.zip ys)) (Val Q)
noncomputable def Gat (H : List AO) (o : V) (x : Str) (Q : V → List AO → Prop) : Prop := ∀ ρ y, o.Rel ρ y → Tri W n ρ H (getAttr y x true) (Val Q)
noncomputable def Sat (H : List AO) (o : V) (x : Str) (v : V) (Q : List AO → Prop) : Prop := ∀ ρ y z, o.Rel ρ y → v.Rel ρ z → Tri W n ρ H (setAttr y x z) (fun _ H' _ => Q H')
noncomputable def Git (H : List AO) (o i : V) (Q : V → List AO → Prop) : Prop := ∀ ρ x y, o.Rel ρ x → i.Rel ρ y → Tri W n ρ H (getItem x y) (Val Q)
noncomputable def GiP (H : List AO) (o : V) : Prop := ∀ ρ x, o.Rel ρ x → Tri W n ρ H (getitemInPython x) (fun ρ' H' b => ρ' = ρ ∧ H' = H ∧ b = false)
noncomputable def Sit (H : List AO) (o i v : V) (Q : List AO → Prop) : Prop := ∀ ρ x y z, o.Rel ρ x → i.Rel ρ y → v.Rel ρ z → Tri W n ρ H (setItem x y z) (fun _ H' _ => Q H')
noncomputable def Met (H : List AO) (o : V) (x : Str) (Q : V → List V → List AO → Prop) : Prop :=
  ∀ ρ y pl, o.Rel ρ y → Tri W n ρ H (getMethod y x pl) (fun ρ' H' p => ∃ f fs, V.Rel ρ' f p.1 ∧ VL ρ' fs p.2 ∧ Q f fs H')
noncomputable def Kee (H : List AO) (f : V) : Prop := ∀ ρ x, f.Rel ρ x → Tri W n ρ H (keeperOf x) (fun ρ' H' _ => ρ' = ρ ∧ H' = H)
noncomputable def Ite (H : List AO) (o : V) (Q : V → List AO → Prop) : Prop := ∀ ρ x, o.Rel ρ x → Tri W n ρ H (pyIter x) (Val Q)
noncomputable def Nxt (H : List AO) (o : V) (Q : Option V → List AO → Prop) : Prop := ∀ ρ x, o.Rel ρ x → Tri W n ρ H (pyNext x) (Opt Q)
end

section
variable {W : Wd} {n : Nat} {ae : AE} {H : List AO} {α β : Type} {ρ : Rho}

theorem Tri.stand {pos : Pos} {f : Unit → Sem α} {Q : Rho → List AO → α → Prop} (h : Tri W n ρ H (f ()) Q) : Tri W n ρ H (PySem.standAt pos >>= f) Q :=
  Tri.bind (Q := fun ρ' H' _ => ρ' = ρ ∧ H' = H) (.standAt ⟨rfl, rfl⟩) fun _ _ _ _ ⟨e1, e2⟩ => by subst e1 e2; exact h
theorem Tri.pointB {f : Unit → Sem α} {Q : Rho → List AO → α → Prop} (h : Tri W n ρ H (f ()) Q) : Tri W n ρ H (PySem.point >>= f) Q :=
  Tri.bind (Q := fun ρ' H' _ => ρ' = ρ ∧ H' = H) (.point ⟨rfl, rfl⟩) fun _ _ _ _ ⟨e1, e2⟩ => by subst e1 e2; exact h
theorem Tri.ruleB {t : String} {f : Unit → Sem α} {Q : Rho → List AO → α → Prop} (h : Tri W n ρ H (f ()) Q) : Tri W n ρ H (PySem.rule t >>= f) Q :=
  Tri.bind (Q := fun ρ' H' _ => ρ' = ρ ∧ H' = H) (.rule ⟨rfl, rfl⟩) fun _ _ _ _ ⟨e1, e2⟩ => by subst e1 e2; exact h
theorem Tri.operate {vs : List Value} {m : Sem Value} {Q : Rho → List AO → Value → Prop} (h : Tri W n ρ H m Q) : Tri W n ρ H (PySem.operate vs m) Q :=
  fun A s r hs g => wpAny_operateT (h A s r hs g)
theorem Tri.release {vs ws : List Value} {f : Unit → Sem α} {Q : Rho → List AO → α → Prop} (h : Tri W n ρ H (f ()) Q) : Tri W n ρ H (PySem.release vs ws >>= f) Q :=
  Tri.bind (Q := fun ρ' H' _ => ρ' = ρ ∧ H' = H) (.quiet fun _ _ _ _ _ => wpAny_release ⟨rfl, rfl, rfl, rfl, rfl⟩) fun _ _ _ _ ⟨e1, e2⟩ => by subst e1 e2; exact h
theorem Tri.release' {vs ws : List Value} {Q : Rho → List AO → Unit → Prop} (h : Q ρ H ()) : Tri W n ρ H (PySem.release vs ws) Q :=
  .quiet fun _ _ _ _ _ => wpAny_release ⟨rfl, rfl, rfl, h⟩
theorem Tri.letTemp {b : Expr} {o r : Value} {f : Unit → Sem α} {Q : Rho → List AO → α → Prop} (h : Tri W n ρ H (f ()) Q) : Tri W n ρ H (letTemporaryGo b o r >>= f) Q :=
  Tri.bind (Q := fun ρ' H' _ => ρ' = ρ ∧ H' = H) (.quiet fun _ _ _ _ _ => wpAny_letTemporaryGo ⟨rfl, rfl, rfl, rfl, rfl⟩) fun _ _ _ _ ⟨e1, e2⟩ => by subst e1 e2; exact h

/-! ### names -/
theorem Ld.local {x : Str} {m : List (Str × V)} {v : V} {Q : V → List AO → Prop} (hk : ae.scope.kind = .function) (hl : ae.scope.names.lookup x = some .local) (hH : H[ae.loc]? = some (.ns m)) (hv : m.lookup x = some v) (h : Q v H) :
    Ld W n ae H x Q := fun ρ env E => .quiet fun A s r hs g => by
  obtain ⟨o, e, ⟨es, ep, hd, hsk, _, hm⟩, _⟩ := hs.ent _ _ _ E.loc hH
  have hx := hm x
  rw [hv] at hx
  cases hf : nsFind es x with
  | none => rw [hf] at hx; exact hx.elim
  | some y =>
    rw [hf] at hx
    exact wpAny_loadName_local (m := nsFind es) (by rw [E.scope]; exact hk) (by show env.scope.names.lookup x = _; rw [E.scope]; exact hl) ⟨o, es, ep, e, hd, hsk, fun _ => rfl⟩ hf ⟨rfl, rfl, rfl, v, hx, h⟩
theorem Ld.cell {x : Str} {i : Nat} {v : V} {Q : V → List AO → Prop} (hk : ae.scope.kind = .function) (hl : ae.scope.names.lookup x = some .cell) (hc : ae.cells.lookup x = some i) (hH : H[i]? = some (.cell (some v))) (h : Q v H) :
    Ld W n ae H x Q := fun ρ env E => .quiet fun A s r hs g => by
  obtain ⟨a, h1, h2⟩ := E.cells.lookup hc
  obtain ⟨o, e, ⟨y, hd, hy⟩, _⟩ := hs.ent _ _ _ h2 hH
  induction y with
  | none => exact hy.elim
  | some y => exact wpAny_loadName_cell (by rw [E.scope]; exact hk) (by show env.scope.names.lookup x = _; rw [E.scope]; exact hl) h1 ⟨o, e, hd⟩ ⟨rfl, rfl, rfl, v, hy, h⟩
theorem Ld.free {x : Str} {i : Nat} {v : V} {Q : V → List AO → Prop} (hk : ae.scope.kind = .function) (hl : ae.scope.names.lookup x = some .free) (hc : ae.cells.lookup x = some i) (hH : H[i]? = some (.cell (some v))) (h : Q v H)
    (hn : (x == ("__classdict__" : Str)) = false) :
    Ld W n ae H x Q := fun ρ env E => .quiet fun A s r hs g => by
  obtain ⟨a, h1, h2⟩ := E.cells.lookup hc
  obtain ⟨o, e, ⟨y, hd, hy⟩, _⟩ := hs.ent _ _ _ h2 hH
  induction y with
  | none => exact hy.elim
  | some y => exact wpAny_loadName_free (by rw [E.scope]; exact hk) (by show env.scope.names.lookup x = _; rw [E.scope]; exact hl) h1 ⟨o, e, hd⟩ ⟨rfl, rfl, rfl, v, hy, h⟩ hn
theorem loadName_global {env : Env} {x : Str} (hk : env.scope.kind = .function) (hx : env.kindOf x = some .globalImplicit) : loadName env x = loadGlobal env x := by
  unfold loadName Env.blockKind
  rw [hk, hx]
  rfl
theorem Ld.global {gl : Str → Option Value} (hB : Base W gl) {x : Str} {v : V} {y : Value} {Q : V → List AO → Prop} (hk : ae.scope.kind = .function) (hl : ae.scope.names.lookup x = some .globalImplicit) (hg : gl x = some y) (hv : ∀ ρ, v.Rel ρ y) (h : Q v H) :
    Ld W n ae H x Q := fun ρ env E => .quiet fun A s r hs g => by
  rw [loadName_global (by rw [E.scope]; exact hk) (by show env.scope.names.lookup x = _; rw [E.scope]; exact hl)]
  exact Calls.loadGlobal_global (by rw [E.gl]; exact hB.g.keeps hs.keep) hg ⟨rfl, rfl, rfl, v, hv ρ, h⟩
theorem Ld.builtin {gl : Str → Option Value} (hB : Base W gl) {x : Str} {v : V} {y : Value} {Q : V → List AO → Prop} (hk : ae.scope.kind = .function) (hl : ae.scope.names.lookup x = some .globalImplicit) (hg : gl x = none) (hy : bootBuiltins x = some y) (hx : x ≠ "__name__")
    (hv : ∀ ρ, v.Rel ρ y) (h : Q v H) : Ld W n ae H x Q := fun ρ env E => .quiet fun A s r hs g => by
  rw [loadName_global (by rw [E.scope]; exact hk) (by show env.scope.names.lookup x = _; rw [E.scope]; exact hl)]
  obtain ⟨bl, b1, b2⟩ := hB.b
  exact Calls.loadGlobal_builtin (by rw [E.gl]; exact hB.g.keeps hs.keep) hg (by rw [E.bl]; exact b1.keeps hs.keep) ((b2 x hx).trans hy) ⟨rfl, rfl, rfl, v, hv ρ, h⟩
theorem Ev.name {x : Str} {pos : Pos} {Q : V → List AO → Prop} (h : Ld W n ae H x Q) (hd : (x == ("__debug__" : Str)) = false) : Ev W n ae H (.Name x pos) Q := fun ρ env E => by
  show Tri W n ρ H (do standAt pos; if x == ("__debug__" : Str) then debugConstant else loadName env x) _
  refine .stand ?_
  rw [hd]
  exact h ρ env E
theorem St.local {x : Str} {m : List (Str × V)} {v : V} {Q : List AO → Prop} (hk : ae.scope.kind = .function) (hl : ae.scope.names.lookup x = some .local) (hH : H[ae.loc]? = some (.ns m)) (h : Q (H.set ae.loc (.ns (put x v m)))) :
    St W n ae H x v Q := fun ρ env y E hv => by
  rw [storeName_local (by show env.scope.names.lookup x = _; rw [E.scope]; exact hl) (by rw [E.scope, hk]; rfl)]
  refine Tri.bindS (fun _ => True) (Tri.bindS (fun _ => True) (.ask ⟨rfl, rfl, trivial⟩) fun _ _ => .pur ⟨rfl, rfl, trivial⟩) fun hh _ => ?_
  refine Tri.bindS (fun k => ∃ t, k = .str x t) (.mkText fun t => ⟨rfl, rfl, t, rfl⟩) fun _ ⟨t, e3⟩ => ?_
  subst e3
  refine Tri.bindS (fun o => (AO.ns m).Is ρ o) (.loadPart E.loc hH fun o ho => ⟨rfl, rfl, ho⟩) fun o ho => ?_
  obtain ⟨es, ep, hd, hsk, _⟩ := id ho
  rw [hd]
  dsimp only
  rw [aRefKeyMayBeTheName_eq, aRefKeyMayBeTheNameByArray, noRef hsk, Bool.and_false]
  exact .updatePart E.loc hH (fun o' ho' => putName_is ho' hv) h
theorem St.cell {x : Str} {i : Nat} {u : Option V} {v : V} {Q : List AO → Prop} (hk : ae.scope.kind = .function) (hl : ae.scope.names.lookup x = some .cell) (hc : ae.cells.lookup x = some i) (hH : H[i]? = some (.cell u)) (h : Q (H.set i (.cell (some v)))) :
    St W n ae H x v Q := fun ρ env y E hv => by
  obtain ⟨a, h1, h2⟩ := E.cells.lookup hc
  have e : storeName env x y = (do cellSet (← cellOf env x) (some y)) := by
    unfold storeName
    have q : env.kindOf x = some .cell := by show env.scope.names.lookup x = _; rw [E.scope]; exact hl
    have q2 : env.scope.kind = .function := by rw [E.scope]; exact hk
    rw [q, q2]
    rfl
  rw [e]
  unfold cellOf cellSet
  rw [h1]
  refine Tri.bindS (fun b => b = a) (.pur ⟨rfl, rfl, rfl⟩) fun _ e3 => ?_
  subst e3
  refine Tri.bindS (fun o => (AO.cell u).Is ρ o) (.load h2 hH fun o ho => ⟨rfl, rfl, ho⟩) fun o ho => ?_
  obtain ⟨z, hz, _⟩ := id ho
  rw [hz]
  exact .update (o' := .cell (some v)) h2 hH (fun o' ho' => ⟨rfl, _, rfl, hv⟩) h
theorem Asg.name {x : Str} {pos : Pos} {v : V} {Q : List AO → Prop} (h : St W n ae H x v Q) : Asg W n ae H (.Name x pos) v Q := fun ρ env y E hv => by
  show Tri W n ρ H (do standAt pos; bindName env x y) _
  refine .stand ?_
  refine Tri.bind (.holding (.point (Q := fun ρ' H' _ => ρ' = ρ ∧ H' = H) ⟨rfl, rfl⟩)) fun _ _ _ _ ⟨e1, e2⟩ => ?_
  subst e1 e2
  exact Tri.bind (h _ env y E hv) fun _ _ _ _ q => .point q

/-! ### expressions -/
theorem Ev.int {i : Int} {k : Nat} {pos : Pos} {Q : V → List AO → Prop} (h : Q (.int i) H) : Ev W n ae H (.Constant (.int i) k pos) Q := fun _ _ _ => .mkInt fun _ => ⟨.int i, ⟨_, rfl⟩, h⟩
theorem Ev.flt {x : UInt64} {k : Nat} {pos : Pos} {Q : V → List AO → Prop} (h : Q (.flt x) H) : Ev W n ae H (.Constant (.float x) k pos) Q := fun _ _ _ => .mkFloat fun _ => ⟨.flt x, ⟨_, rfl⟩, h⟩
theorem Ev.str {x : Str} {k : Nat} {pos : Pos} {Q : V → List AO → Prop} (h : Q (.str x) H) : Ev W n ae H (.Constant (.str x) k pos) Q := fun _ _ _ => .mkText fun _ => ⟨.str x, ⟨_, rfl⟩, h⟩
theorem Ev.bool {b : Bool} {k : Nat} {pos : Pos} {Q : V → List AO → Prop} (h : Q (.bool b) H) : Ev W n ae H (.Constant (.bool b) k pos) Q := fun _ _ _ => .pur ⟨.bool b, rfl, h⟩
theorem Ev.none {k : Nat} {pos : Pos} {Q : V → List AO → Prop} (h : Q .none H) : Ev W n ae H (.Constant .none k pos) Q := fun _ _ _ => .pur ⟨.none, rfl, h⟩
theorem Ev.bin {l r : Expr} {op : Operator} {pos : Pos} {Q : V → List AO → Prop} (h : Ev W n ae H l fun a H1 => Ev W n ae H1 r fun b H2 => Bin W n H2 op a b Q) : Ev W n ae H (.BinOp l op r pos) Q := fun ρ env E => by
  show Tri W n ρ H (do let a ← eval l env; let b ← PySem.holding [a] (eval r env); PySem.standAt pos; PySem.operate [a, b] (binaryOp op a b)) _
  refine Tri.bind (h ρ env E) fun ρ1 H1 x l1 ⟨a, ha, k1⟩ => ?_
  refine Tri.bind (.holding (k1 ρ1 env (E.mono l1))) fun ρ2 H2 y l2 ⟨b, hb, k2⟩ => ?_
  exact .stand (.operate (k2 ρ2 x y (ha.mono l2) hb))
theorem Ev.un {x : Expr} {op : UnaryOp} {pos : Pos} {Q : V → List AO → Prop} (h : Ev W n ae H x fun a H1 => Un W n H1 op a Q) : Ev W n ae H (.UnaryOp op x pos) Q := fun ρ env E => by
  show Tri W n ρ H (do let v ← eval x env; PySem.standAt pos; PySem.holding [v] (unaryOp op v)) _
  refine Tri.bind (h ρ env E) fun ρ1 H1 x l1 ⟨a, ha, k1⟩ => ?_
  exact .stand (.holding (k1 ρ1 x ha))
theorem Ev.ite {t b o : Expr} {pos : Pos} {Q : V → List AO → Prop} (h : EvT W n ae H t fun c H1 => (c = true → Ev W n ae H1 b Q) ∧ (c = false → Ev W n ae H1 o Q)) : Ev W n ae H (.IfExp t b o pos) Q := fun ρ env E => by
  show Tri W n ρ H (do if ← isTrue t env (eval t env) then eval b env else eval o env) _
  refine Tri.bind (h ρ env E) fun ρ1 H1 c l1 k1 => ?_
  induction c with
  | true => exact k1.1 rfl ρ1 env (E.mono l1)
  | false => exact k1.2 rfl ρ1 env (E.mono l1)
theorem Ev.cmp {l r : Expr} {op : CmpOp} {pos : Pos} {Q : V → List AO → Prop} (h : Ev W n ae H l fun a H1 => Ev W n ae H1 r fun b H2 => Cmp W n H2 op a b Q) (hm : behindInMarks op r = false) : Ev W n ae H (.Compare l [op] [r] pos) Q := fun ρ env E => by
  show Tri W n ρ H (do compareChain pos (← eval l env) [op] [markedBehindIn op r (eval r env)]) _
  rw [markedBehindIn_of_false hm]
  refine Tri.bind (h ρ env E) fun ρ1 H1 x l1 ⟨a, ha, k1⟩ => ?_
  show Tri W n ρ1 H1 (do let rv ← PySem.holding [x] (eval r env); PySem.standAt pos; PySem.operate [x, rv] (compareOp op x rv)) _
  refine Tri.bind (.holding (k1 ρ1 env (E.mono l1))) fun ρ2 H2 y l2 ⟨b, hb, k2⟩ => ?_
  exact .stand (.operate (k2 ρ2 x y (ha.mono l2) hb))
theorem EvT.cmp {l r : Expr} {op : CmpOp} {pos : Pos} {Q : Bool → List AO → Prop} (h : Ev W n ae H l fun a H1 => Ev W n ae H1 r fun b H2 => Cmp W n H2 op a b fun c H3 => Tru W n H3 c Q) (hm : behindInMarks op r = false) : EvT W n ae H (.Compare l [op] [r] pos) Q := fun ρ env E => by
  show Tri W n ρ H (do testChain pos (← eval l env) [op] [markedBehindIn op r (eval r env)]) _
  rw [markedBehindIn_of_false hm]
  refine Tri.bind (h ρ env E) fun ρ1 H1 x l1 ⟨a, ha, k1⟩ => ?_
  show Tri W n ρ1 H1 (do let rv ← PySem.holding [x] (eval r env); PySem.standAt pos; let c ← PySem.operate [x, rv] (compareOp op x rv); PySem.holding [c] (truthy c)) _
  refine Tri.bind (.holding (k1 ρ1 env (E.mono l1))) fun ρ2 H2 y l2 ⟨b, hb, k2⟩ => ?_
  refine .stand (Tri.bind (.operate (k2 ρ2 x y (ha.mono l2) hb)) fun ρ3 H3 c l3 ⟨d, hd, k3⟩ => ?_)
  exact .holding (k3 ρ3 c hd)
theorem EvT.chain2 {l r u : Expr} {op op2 : CmpOp} {pos : Pos} {Q : Bool → List AO → Prop}
    (h : Ev W n ae H l fun a H1 => Ev W n ae H1 r fun b H2 => Cmp W n H2 op a b fun c H3 => Tru W n H3 c fun t H4 =>
      (t = false → Q false H4) ∧ (t = true → Ev W n ae H4 u fun d H5 => Cmp W n H5 op2 b d fun e H6 => Tru W n H6 e Q))
    (hm2 : behindInMarks op2 u = false) : EvT W n ae H (.Compare l [op, op2] [r, u] pos) Q := fun ρ env E => by
  show Tri W n ρ H (do testChain pos (← eval l env) [op, op2] [eval r env, markedBehindIn op2 u (eval u env)]) _
  rw [markedBehindIn_of_false hm2]
  refine Tri.bind (h ρ env E) fun ρ1 H1 x l1 ⟨a, ha, k1⟩ => ?_
  show Tri W n ρ1 H1 (do
    let rv ← PySem.holding [x] (eval r env)
    PySem.standAt pos
    let c ← PySem.holding [x, rv] (compareOp op x rv)
    PySem.release [x, rv] [c]
    if ← PySem.holding [c, rv] (truthy c) then testChain pos rv [op2] [eval u env] else pure false) _
  refine Tri.bind (.holding (k1 ρ1 env (E.mono l1))) fun ρ2 H2 y l2 ⟨b, hb, k2⟩ => ?_
  refine .stand (Tri.bind (.holding (k2 ρ2 x y (ha.mono l2) hb)) fun ρ3 H3 c l3 ⟨d, hd, k3⟩ => ?_)
  refine .release (Tri.bind (.holding (k3 ρ3 c hd)) fun ρ4 H4 t l4 k4 => ?_)
  induction t with
  | false => exact .pur (k4.1 rfl)
  | true =>
    show Tri W n ρ4 H4 (do let rv ← PySem.holding [y] (eval u env); PySem.standAt pos; let c ← PySem.operate [y, rv] (compareOp op2 y rv); PySem.holding [c] (truthy c)) _
    refine Tri.bind (.holding (k4.2 rfl ρ4 env (E.mono (((l1.trans l2).trans l3).trans l4)))) fun ρ5 H5 z l5 ⟨e, he, k5⟩ => ?_
    refine .stand (Tri.bind (.operate (k5 ρ5 y z (hb.mono ((l3.trans l4).trans l5)) he)) fun ρ6 H6 c2 l6 ⟨d2, hd2, k6⟩ => ?_)
    exact .holding (k6 ρ6 c2 hd2)
theorem EvT.not {x : Expr} {pos : Pos} {Q : Bool → List AO → Prop} (h : EvT W n ae H x fun b H1 => Q (!b) H1) : EvT W n ae H (.UnaryOp .Not x pos) Q := fun ρ env E => by
  show Tri W n ρ H (do return !(← isTrue x env (eval x env))) _
  exact Tri.bind (h ρ env E) fun _ _ _ _ k => .pur k
theorem EvT.and2 {a b : Expr} {pos : Pos} {Q : Bool → List AO → Prop} (h : EvT W n ae H a fun c H1 => (c = false → Q false H1) ∧ (c = true → EvT W n ae H1 b Q)) : EvT W n ae H (.BoolOp .And [a, b] pos) Q := fun ρ env E => by
  show Tri W n ρ H (allTrue .And [a, b] env) _
  rw [arm_allTrue_cons]
  refine Tri.bind (h ρ env E) fun ρ1 H1 c l1 k1 => ?_
  induction c with
  | false => exact .pur (k1.1 rfl)
  | true =>
    show Tri W n ρ1 H1 (allTrue .And [b] env) _
    rw [arm_allTrue_cons]
    refine Tri.bind (k1.2 rfl ρ1 env (E.mono l1)) fun ρ2 H2 c l2 k2 => ?_
    induction c with
    | false => exact .pur k2
    | true => exact .pur k2
theorem EvT.or2 {a b : Expr} {pos : Pos} {Q : Bool → List AO → Prop} (h : EvT W n ae H a fun c H1 => (c = true → Q true H1) ∧ (c = false → EvT W n ae H1 b Q)) : EvT W n ae H (.BoolOp .Or [a, b] pos) Q := fun ρ env E => by
  show Tri W n ρ H (allTrue .Or [a, b] env) _
  rw [arm_allTrue_cons]
  refine Tri.bind (h ρ env E) fun ρ1 H1 c l1 k1 => ?_
  induction c with
  | true => exact .pur (k1.1 rfl)
  | false =>
    show Tri W n ρ1 H1 (allTrue .Or [b] env) _
    rw [arm_allTrue_cons]
    refine Tri.bind (k1.2 rfl ρ1 env (E.mono l1)) fun ρ2 H2 c l2 k2 => ?_
    induction c with
    | false => exact .pur k2
    | true => exact .pur k2
theorem EvT.value {e : Expr} {Q : Bool → List AO → Prop} (h : Ev W n ae H e fun a H1 => Tru W n H1 a Q) (hp : ∀ env whole, isTrue e env whole = (do let v ← whole; PySem.standAt e.pos; PySem.holding [v] (truthy v))) : EvT W n ae H e Q := fun ρ env E => by
  rw [hp]
  refine Tri.bind (h ρ env E) fun ρ1 H1 x l1 ⟨a, ha, k1⟩ => ?_
  exact .stand (.holding (k1 ρ1 x ha))
theorem boolOp_two {pos : Pos} {op : BoolOp} {x y : Sem Value} : boolOp pos op [x, y] = (do
    let v ← x
    PySem.standAt pos
    let t ← PySem.holding [v] (truthy v)
    PySem.boolOp.match_1 (fun _ _ => Sem Value) op t (fun _ => pure v) (fun _ => pure v) (fun _ _ => y)) := rfl
theorem Ev.and2 {a b : Expr} {pos : Pos} {Q : V → List AO → Prop} (h : Ev W n ae H a fun x H1 => Tru W n H1 x fun c H2 => (c = false → Q x H2) ∧ (c = true → Ev W n ae H2 b Q)) : Ev W n ae H (.BoolOp .And [a, b] pos) Q := fun ρ env E => by
  show Tri W n ρ H (boolOp pos .And [eval a env, eval b env]) _
  rw [boolOp_two]
  refine Tri.bind (h ρ env E) fun ρ1 H1 x l1 ⟨a, ha, k1⟩ => ?_
  refine .stand (Tri.bind (.holding (k1 ρ1 x ha)) fun ρ2 H2 c l2 k2 => ?_)
  induction c with
  | false => exact .pur ⟨a, ha.mono l2, k2.1 rfl⟩
  | true => exact k2.2 rfl ρ2 env (E.mono (l1.trans l2))
theorem Ev.or2 {a b : Expr} {pos : Pos} {Q : V → List AO → Prop} (h : Ev W n ae H a fun x H1 => Tru W n H1 x fun c H2 => (c = true → Q x H2) ∧ (c = false → Ev W n ae H2 b Q)) : Ev W n ae H (.BoolOp .Or [a, b] pos) Q := fun ρ env E => by
  show Tri W n ρ H (boolOp pos .Or [eval a env, eval b env]) _
  rw [boolOp_two]
  refine Tri.bind (h ρ env E) fun ρ1 H1 x l1 ⟨a, ha, k1⟩ => ?_
  refine .stand (Tri.bind (.holding (k1 ρ1 x ha)) fun ρ2 H2 c l2 k2 => ?_)
  induction c with
  | true => exact .pur ⟨a, ha.mono l2, k2.1 rfl⟩
  | false => exact k2.2 rfl ρ2 env (E.mono (l1.trans l2))
theorem EvL.nil {Q : List V → List AO → Prop} (h : Q [] H) : EvL W n ae H [] Q := fun _ _ _ _ => .pur ⟨[], trivial, h⟩
theorem EvL.cons {e : Expr} {es : List Expr} {Q : List V → List AO → Prop} (h : Ev W n ae H e fun v H1 => EvL W n ae H1 es fun vs H2 => Q (v :: vs) H2) (hs : ∀ env, starEach (e :: es) env = (false, eval e env) :: starEach es env) : EvL W n ae H (e :: es) Q := fun ρ env pos E => by
  rw [hs]
  show Tri W n ρ H (do let v ← eval e env; let here ← (pure [v] : Sem (List Value)); return here ++ (← PySem.holding here (spliced (backTo pos (starEach es env))))) _
  refine Tri.bind (h ρ env E) fun ρ1 H1 x l1 ⟨a, ha, k1⟩ => ?_
  refine Tri.bind (.pur (Q := fun ρ' H' b => ρ' = ρ1 ∧ H' = H1 ∧ b = [x]) ⟨rfl, rfl, rfl⟩) fun _ _ _ _ ⟨e1, e2, e3⟩ => ?_
  subst e1 e2 e3
  refine Tri.bind (.holding (k1 _ env pos (E.mono l1))) fun ρ2 H2 xs l2 ⟨vs, hvs, k2⟩ => ?_
  exact .pur ⟨a :: vs, ⟨ha.mono l2, hvs⟩, k2⟩
theorem EvK.nil {Q : List V → List AO → Prop} (h : Q [] H) : EvK W n ae H [] Q := fun _ _ _ _ => .pur ⟨[], trivial, h⟩
theorem EvK.cons {nm : Option Str} {e : Expr} {kp : Pos} {ks : List Keyword} {Q : List V → List AO → Prop} (h : Ev W n ae H e fun v H1 => EvK W n ae H1 ks fun vs H2 => Q (v :: vs) H2) : EvK W n ae H (⟨nm, e, kp⟩ :: ks) Q := fun ρ env pos E => by
  show Tri W n ρ H (evalAll ((do let v ← eval e env; PySem.standAt pos; pure v) :: (backToKw pos (keywordEach ks env)).map (·.2))) _
  rw [evalAll]
  refine Tri.bind (Tri.bind (h ρ env E) fun ρ1 H1 x l1 k => .stand (.pur (Q := Val fun v H1 => EvK W n ae H1 ks fun vs H2 => Q (v :: vs) H2) k)) fun ρ1 H1 x l1 ⟨a, ha, k1⟩ => ?_
  refine Tri.bind (.holding (k1 _ env pos (E.mono l1))) fun ρ2 H2 xs l2 ⟨vs, hvs, k2⟩ => ?_
  exact .pur ⟨a :: vs, ⟨ha.mono l2, hvs⟩, k2⟩
theorem VL.size {ρ : Rho} {vs : List V} {xs : List Value} (h : VL ρ vs xs) : xs.toArray.size = vs.length := by rw [List.size_toArray]; exact h.length
theorem Tri.newSeq {ρ : Rho} {cls : String} {vs : List V} {xs : List Value} {o : AO} {Q : V → List AO → Prop} (hv : VL ρ vs xs) (hz : vs.length ≤ sizeLine) (ho : ∀ ρ' x, Le ρ ρ' → SeqRel ρ' cls vs x → o.Is ρ' x) (h : Q (.ref H.length) (H ++ [o])) (hp : ∀ h x, o.Hp h x := by intro _ _; trivial) :
    Tri W n ρ H (newObj (.type cls) (.seq xs.toArray)) (Val Q) := .withLen fun hl => by
  have hz' : ¬ xs.toArray.size > sizeLine := by rw [hv.size]; lia
  unfold newObj newObjAsIs
  dsimp only
  rw [if_neg hz']
  refine Tri.bind (.alloc o (Q := fun ρ' H' a => ρ' = ρ ++ [a] ∧ H' = H ++ [o]) rfl (fun a => ?_) (fun a => ⟨rfl, rfl⟩) hp) fun ρ1 H1 a l ⟨e1, e2⟩ => ?_
  · exact ho _ _ (.snoc _ _) ⟨0, _, rfl, by simpa using hv.mono (.snoc _ _)⟩
  · subst e1 e2
    exact .pur ⟨.ref H.length, ⟨a, by rw [← hl]; simp, rfl⟩, h⟩
end
end Mine

-- FILE A3
open PySem PySem.W PyProof.Rows
set_option Elab.async false
set_option autoImplicit false
namespace Mine
section
variable {W : Wd} {n : Nat} {ae : AE} {H : List AO} {α β : Type} {ρ : Rho}

theorem Ev.list {es : List Expr} {pos : Pos} {Q : V → List AO → Prop} (h : EvL W n ae H es fun vs H1 => vs.length ≤ sizeLine ∧ Q (.ref H1.length) (H1 ++ [.lst vs])) : Ev W n ae H (.List es pos) Q := fun ρ env E => by
  show Tri W n ρ H (do PySem.standAt pos; newList (← spliced (backTo pos (starEach es env)))) _
  refine .stand (Tri.bind (h ρ env pos E) fun ρ1 H1 xs l1 ⟨vs, hvs, k1, k2⟩ => ?_)
  exact Tri.newSeq (o := .lst vs) hvs k1 (fun _ _ _ q => q) k2
theorem Ev.tuple {es : List Expr} {k : Nat} {pos : Pos} {Q : V → List AO → Prop} (h : EvL W n ae H es fun vs H1 => vs.length ≤ sizeLine ∧ Q (.ref H1.length) (H1 ++ [.tup vs])) : Ev W n ae H (.Tuple es k pos) Q := fun ρ env E => by
  show Tri W n ρ H (do PySem.standAt pos; newTuple (← spliced (backTo pos (starEach es env)))) _
  refine .stand (Tri.bind (h ρ env pos E) fun ρ1 H1 xs l1 ⟨vs, hvs, k1, k2⟩ => ?_)
  exact Tri.newSeq (o := .tup vs) hvs k1 (fun _ _ _ q => q) k2

theorem Tri.newFields {ρ : Rho} {cls : String} {vs : List V} {xs : List Value} {Q : V → List AO → Prop} (hv : VL ρ vs xs) (hz : vs.length ≤ sizeLine) (h : Q (.ref H.length) (H ++ [.flds cls vs])) :
    Tri W n ρ H (PySem.newFields cls xs) (Val Q) := .withLen fun hl => by
  have hz' : ¬ xs.toArray.size > sizeLine + 2 := by rw [hv.size]; lia
  unfold PySem.newFields newObj newObjAsIs
  dsimp only
  rw [if_neg hz']
  refine Tri.bind (.alloc (.flds cls vs) (Q := fun ρ' H' a => ρ' = ρ ++ [a] ∧ H' = H ++ [.flds cls vs]) rfl (fun a => ?_) fun a => ⟨rfl, rfl⟩) fun ρ1 H1 a l ⟨e1, e2⟩ => ?_
  · exact ⟨_, rfl, by simpa using hv.mono (.snoc _ _)⟩
  · subst e1 e2
    exact .pur ⟨.ref H.length, ⟨a, by rw [← hl]; simp, rfl⟩, h⟩

/-- an optional part of a slice -/
noncomputable def EvO (W : Wd) (n : Nat) (ae : AE) (H : List AO) : Option Expr → (V → List AO → Prop) → Prop
  | none, Q => Q .none H
  | some e, Q => Ev W n ae H e Q
theorem EvO.tri {e : Option Expr} {Q : V → List AO → Prop} {env : Env} (h : EvO W n ae H e Q) (E : EnvIs ρ ae env) : Tri W n ρ H (valueOrNone (evalOpt e env)) (Val Q) := by
  induction e with
  | none => exact .pur ⟨.none, rfl, h⟩
  | some e => exact h ρ env E
theorem Ev.slice {l u s : Option Expr} {pos : Pos} {Q : V → List AO → Prop} (h : EvO W n ae H l fun a H1 => EvO W n ae H1 u fun b H2 => EvO W n ae H2 s fun c H3 => Q (.ref H3.length) (H3 ++ [.flds "slice" [a, b, c]])) :
    Ev W n ae H (.Slice l u s pos) Q := fun ρ env E => by
  show Tri W n ρ H (do
    let l ← valueOrNone (evalOpt l env)
    let u ← PySem.holding [l] (valueOrNone (evalOpt u env))
    let s ← PySem.holding [l, u] (valueOrNone (evalOpt s env))
    PySem.newFields "slice" [l, u, s]) _
  refine Tri.bind (EvO.tri h E) fun ρ1 H1 x l1 ⟨a, ha, k1⟩ => ?_
  refine Tri.bind (.holding (EvO.tri k1 (E.mono l1))) fun ρ2 H2 y l2 ⟨b, hb, k2⟩ => ?_
  refine Tri.bind (.holding (EvO.tri k2 (E.mono (l1.trans l2)))) fun ρ3 H3 z l3 ⟨c, hc, k3⟩ => ?_
  exact Tri.newFields (vs := [a, b, c]) ⟨ha.mono (l2.trans l3), hb.mono l3, hc, trivial⟩ (by rw [sizeLine_eq]; simp) k3

/-! ### calls -/
theorem evalArgs_match {M : Sort _} {args : List (Bool × Sem Value)} (hp : args.any (·.1) = false) {a : Sem Value → M} {b : Bool → List (Bool × Sem Value) → M} : PySem.evalArgs.match_1 (fun _ _ => M) true args a b = b true args := by
  rcases args with _ | ⟨⟨_ | _, x⟩, r⟩ <;> first | rfl | exact absurd hp (by simp)
theorem Tri.evalArgs {f : Value} {args : List (Bool × Sem Value)} {kws : List (Option Str × Sem Value)} {kn : List Str} {Q : List V → List V → List AO → Prop}
    (hp : args.any (·.1) = false) (hk : kws.all (·.1.isSome) = true) (hn : kws.filterMap (·.1) = kn)
    (h : Tri W n ρ H (spliced args) (Vals fun vs H1 => ∀ ρ1, Le ρ ρ1 → Tri W n ρ1 H1 (evalAll (kws.map (·.2))) (Vals fun us H2 => Q vs us H2))) :
    Tri W n ρ H (PySem.evalArgs f true args kws) (fun ρ' H' a => ∃ vs us ys, VL ρ' vs a.pos ∧ VL ρ' us ys ∧ a.kw = kn.zip ys ∧ Q vs us H') := by
  unfold PySem.evalArgs
  rw [evalArgs_match hp]
  · refine Tri.bind h fun ρ1 H1 p l1 ⟨vs, hvs, k⟩ => ?_
    refine Tri.bindS (fun b => b = (p, none)) (.pur ⟨rfl, rfl, rfl⟩) fun _ e3 => ?_
    subst e3
    dsimp only
    rw [hk]
    refine .holding (Tri.bind (k ρ1 l1) fun ρ2 H2 ys l2 ⟨us, hus, k2⟩ => ?_)
    refine Tri.bindS (fun b => b = p) (.pur ⟨rfl, rfl, rfl⟩) fun _ e3 => ?_
    subst e3
    exact .pur ⟨vs, us, ys, hvs.mono l2, hus, by rw [hn], k2⟩

theorem Tri.callWith {pos : Pos} {f : Value} {fv : V} {first : List Value} {fs : List V} {args : List (Bool × Sem Value)} {kws : List (Option Str × Sem Value)} {kn : List Str} {Q : V → List AO → Prop}
    (hf : fv.Rel ρ f) (hfs : VL ρ fs first) (hp : args.any (·.1) = false) (hk : kws.all (·.1.isSome) = true) (hn : kws.filterMap (·.1) = kn)
    (h : Tri W n ρ H (spliced args) (Vals fun vs H1 => ∀ ρ1, Le ρ ρ1 → Tri W n ρ1 H1 (evalAll (kws.map (·.2))) (Vals fun us H2 => Kee W n H2 fv ∧ Cl W n H2 fv (fs ++ vs) kn us Q))) :
    Tri W n ρ H (PySem.callWith pos f first args kws) (Val Q) := by
  refine Tri.bind (.holding (Tri.evalArgs hp hk hn h)) fun ρ1 H1 a l1 ⟨vs, us, ys, hvs, hus, hkw, k1, k2⟩ => ?_
  refine .stand ?_
  have hst : (args.any (·.1) || kws.any (·.1.isNone)) = false := by
    rw [hp, Bool.false_or]
    rw [List.any_eq_false]
    intro x hx
    have := List.all_eq_true.mp hk x hx
    cases h : x.1 <;> simp_all
  rw [hst, hkw]
  refine Tri.bindS (fun _ => True) ((k1 ρ1 f (hf.mono l1)).mono fun _ _ _ _ ⟨e1, e2⟩ => ⟨e1, e2, trivial⟩) fun kp _ => ?_
  have main : Tri W n ρ1 H1 (call f (first ++ a.pos) (kn.zip ys)) (Val Q) := k2 ρ1 f _ ys (hf.mono l1) ((hfs.mono l1).append hvs) hus
  have tail : ∀ {t : Sem Value}, Tri W n ρ1 H1 t (Val Q) → Tri W n ρ1 H1 (t >>= fun r => PySem.holding [r] PySem.point >>= fun _ => Pure.pure r) (Val Q) := fun ht =>
    Tri.bind ht fun ρ2 H2 r l2 k => Tri.bindS (fun _ => True) (.holding (.point ⟨rfl, rfl, trivial⟩)) fun _ _ => .pur k
  have marked (mk : Value) : Tri W n ρ1 H1 (callMarked mk f (first ++ a.pos) (kn.zip ys)) (Val Q) := by
    exact fun A s r hs g => Calls.wpAny_keep (main A s r hs g)
  induction kp <;> dsimp only
  · split <;> first | exact tail main | exact tail (marked _)
  · split <;> first | exact tail main | exact tail (marked _)
  · exact tail main
  · exact tail (.operate main)

theorem Ev.call {f : Expr} {as : List Expr} {ks : List Keyword} {kn : List Str} {pos : Pos} {Q : V → List AO → Prop}
    (he : ∀ env, eval (.Call f as ks pos) env = (do PySem.callWith pos (← eval f env) [] (backTo pos (starEach as env)) (backToKw pos (keywordEach ks env))))
    (hp : ∀ env, (backTo pos (starEach as env)).any (·.1) = false) (hk : ∀ env, (backToKw pos (keywordEach ks env)).all (·.1.isSome) = true) (hn : ∀ env, (backToKw pos (keywordEach ks env)).filterMap (·.1) = kn)
    (h : Ev W n ae H f fun fv H1 => EvL W n ae H1 as fun vs H2 => EvK W n ae H2 ks fun us H3 => Kee W n H3 fv ∧ Cl W n H3 fv vs kn us Q) : Ev W n ae H (.Call f as ks pos) Q := fun ρ env E => by
  rw [he]
  refine Tri.bind (h ρ env E) fun ρ1 H1 x l1 ⟨fv, hf, k1⟩ => ?_
  refine Tri.callWith hf (fs := []) trivial (hp env) (hk env) (hn env) ?_
  refine (k1 ρ1 env pos (E.mono l1)).mono fun ρ2 H2 xs l2 ⟨vs, hvs, k2⟩ => ⟨vs, hvs, fun ρ3 l3 => ?_⟩
  exact k2 ρ3 env pos (E.mono (l1.trans l3))
theorem Ev.meth {o : Expr} {name : Str} {apos pos : Pos} {as : List Expr} {ks : List Keyword} {kn : List Str} {Q : V → List AO → Prop}
    (hb : ∀ env whole, attributeBase o name env whole = whole) (hl : (apos.endLine == pos.line) = true)
    (hm : ∀ env, methodCallForm (as.length + ks.length) (backTo pos (starEach as env)) (backToKw pos (keywordEach ks env)) = true)
    (hp : ∀ env, (backTo pos (starEach as env)).any (·.1) = false) (hk : ∀ env, (backToKw pos (keywordEach ks env)).all (·.1.isSome) = true) (hn : ∀ env, (backToKw pos (keywordEach ks env)).filterMap (·.1) = kn)
    (h : Ev W n ae H o fun ov H1 => Met W n H1 ov name fun fv fs H2 => EvL W n ae H2 as fun vs H3 => EvK W n ae H3 ks fun us H4 => Kee W n H4 fv ∧ Cl W n H4 fv (fs ++ vs) kn us Q) :
    Ev W n ae H (.Call (.Attribute o name apos) as ks pos) Q := fun ρ env E => by
  rw [arm_eval_Call, hb]
  refine Tri.bind (h ρ env E) fun ρ1 H1 x l1 ⟨ov, hov, k1⟩ => ?_
  refine .stand ?_
  unfold methodCall calleeOf methodCallPos
  rw [hm env]
  simp only [hl, if_true, Bool.not_true, Bool.false_or]
  refine Tri.bind (.holding (k1 ρ1 x _ hov)) fun ρ2 H2 p l2 ⟨fv, fs, hf, hfs, k2⟩ => ?_
  refine Tri.bindS (fun b => b = pos) (.pur ⟨rfl, rfl, rfl⟩) fun _ e3 => ?_
  subst e3
  obtain ⟨f, first⟩ := p
  refine Tri.callWith hf hfs (hp env) (hk env) (hn env) ?_
  refine (k2 ρ2 env _ (E.mono (l1.trans l2))).mono fun ρ3 H3 xs l3 ⟨vs, hvs, k3⟩ => ⟨vs, hvs, fun ρ4 l4 => ?_⟩
  exact k3 ρ4 env _ (E.mono ((l1.trans l2).trans l4))
theorem Ev.attr {o : Expr} {name : Str} {pos : Pos} {Q : V → List AO → Prop} (hb : ∀ env whole, attributeBase o name env whole = whole) (h : Ev W n ae H o fun ov H1 => Gat W n H1 ov name Q) : Ev W n ae H (.Attribute o name pos) Q := fun ρ env E => by
  rw [arm_eval_Attribute, hb]
  refine Tri.bind (h ρ env E) fun ρ1 H1 x l1 ⟨ov, hov, k1⟩ => ?_
  refine .stand (Tri.bind (.holding (k1 ρ1 x hov)) fun ρ2 H2 r l2 k2 => ?_)
  exact .letTemp (.pur k2)
theorem Ev.sub {o i : Expr} {pos : Pos} {Q : V → List AO → Prop} (h : Ev W n ae H o fun ov H1 => Ev W n ae H1 i fun iv H2 => GiP W n H2 ov ∧ Git W n H2 ov iv Q) : Ev W n ae H (.Subscript o i pos) Q := fun ρ env E => by
  rw [arm_eval_Subscript]
  refine Tri.bind (h ρ env E) fun ρ1 H1 x l1 ⟨ov, hov, k1⟩ => ?_
  refine Tri.bind (.holding (k1 ρ1 env (E.mono l1))) fun ρ2 H2 y l2 ⟨iv, hiv, k2, k3⟩ => ?_
  refine .stand (Tri.bindS (fun b => b = false) ((k2 ρ2 x (hov.mono l2)).mono fun _ _ _ _ ⟨e1, e2, e3⟩ => ⟨e1, e2, e3⟩) fun _ e => ?_)
  subst e
  have q : Tri W n ρ2 H2 (subscripted i false x y) (Val Q) := by
    have a : Tri W n ρ2 H2 (operate [x, y] (getItem x y)) (Val Q) := .operate (k3 ρ2 x y (hov.mono l2) hiv)
    have b : Tri W n ρ2 H2 (operate [y, x] (getItem x y)) (Val Q) := .operate (k3 ρ2 x y (hov.mono l2) hiv)
    clear k3 k2 k1 hov hiv
    induction i using PySem.Expr.casesOn with
    | Slice lo hi st p => induction st <;> first | exact a | exact b
    | _ => exact a
  exact Tri.bind q fun ρ3 H3 r l3 k => .letTemp (.pur k)

/-! ### statements -/
theorem Exs.nil {Q : Fl → List AO → Prop} (h : Q .next H) : Exs W n ae H [] Q := fun _ _ _ => .pur ⟨.next, rfl, h⟩
theorem Exs.cons {st : Stmt} {r : List Stmt} {Q : Fl → List AO → Prop} (h : Ex W n ae H st fun fl H1 => match fl with | .next => Exs W n ae H1 r Q | fl => Q fl H1) : Exs W n ae H (st :: r) Q := fun ρ env E => by
  show Tri W n ρ H (do match ← exec st env with | .next => execs r env | f => pure f) _
  refine Tri.bind (h ρ env E) fun ρ1 H1 f l1 ⟨fl, hf, k⟩ => ?_
  induction fl with
  | next => cases hf; exact k ρ1 env (E.mono l1)
  | brk => cases hf; exact .pur ⟨.brk, rfl, k⟩
  | cont => cases hf; exact .pur ⟨.cont, rfl, k⟩
  | ret v => obtain ⟨x, rfl, hx⟩ := hf; exact .pur ⟨.ret v, ⟨x, rfl, hx⟩, k⟩
theorem Ex.ret {e : Expr} {pos : Pos} {Q : Fl → List AO → Prop} (h : Ev W n ae H e fun v H1 => Q (Fl.ret v) H1) : Ex W n ae H (.Return (some e) pos) Q := fun ρ env E => by
  rw [arm_exec_Return]
  refine .stand ?_
  show Tri W n ρ H (do return Flow.ret (← eval e env)) _
  exact Tri.bind (h ρ env E) fun ρ1 H1 x l1 ⟨v, hv, k⟩ => .pur ⟨.ret v, ⟨x, rfl, hv⟩, k⟩
theorem Ex.cont {pos : Pos} {Q : Fl → List AO → Prop} (h : Q .cont H) : Ex W n ae H (.Continue pos) Q := fun _ _ _ => .stand (.pur ⟨.cont, rfl, h⟩)
theorem Ex.ite {t : Expr} {b o : List Stmt} {pos : Pos} {Q : Fl → List AO → Prop} (h : EvT W n ae H t fun c H1 => (c = true → Exs W n ae H1 b Q) ∧ (c = false → Exs W n ae H1 o Q)) : Ex W n ae H (.If t b o pos) Q := fun ρ env E => by
  rw [arm_exec_If]
  refine .stand (Tri.bind (h ρ env E) fun ρ1 H1 c l1 k1 => ?_)
  induction c with
  | true => exact k1.1 rfl ρ1 env (E.mono l1)
  | false => exact k1.2 rfl ρ1 env (E.mono l1)
theorem Ex.expr {e : Expr} {pos : Pos} {Q : Fl → List AO → Prop} (hk : ae.scope.kind = .function) (hs : ∀ env, swapsWith e none pos.line env = pure false) (h : Ev W n ae H e fun _ H1 => Q .next H1) : Ex W n ae H (.Expr e pos) Q := fun ρ env E => by
  have hi : interactive env = false := by unfold interactive; rw [E.scope, hk]; rfl
  rw [exec_Expr env e pos hi (hs env)]
  refine .stand (Tri.bind (h ρ env E) fun ρ1 H1 x l1 ⟨v, hv, k⟩ => ?_)
  exact .quiet fun A s r hs g => wpAny_dropValue ⟨rfl, rfl, rfl, .next, rfl, k⟩
/-- one target, no stores exchanged -/
theorem Ex.assign {t e : Expr} {pos : Pos} {Q : Fl → List AO → Prop} (hs : ∀ env, env.scope = ae.scope → swapsWithSole [t] e pos.line env = pure false) (hss : ∀ env, env.scope = ae.scope → swappedStores [t] e env = pure none) (hst : ∀ env, assignEach [t] env = [(false, PySem.assign t env)])
    (h : Ev W n ae H e fun v H1 => Asg W n ae H1 t v fun H2 => Q .next H2) : Ex W n ae H (.Assign [t] e pos) Q := fun ρ env E => by
  rw [arm_exec_Assign, hs env E.scope]
  refine .stand ?_
  show Tri W n ρ H (do let v ← eval e env; assignStores env v (← swappedStores [t] e env) ((assignEach [t] env).map (·.2))) _
  rw [hss env E.scope, hst]
  refine Tri.bind (h ρ env E) fun ρ1 H1 x l1 ⟨v, hv, k⟩ => ?_
  show Tri W n ρ1 H1 (do PySem.assign t env x; pure Flow.next) _
  exact Tri.bind (k ρ1 env x (E.mono l1) hv) fun ρ2 H2 _ _ k2 => .pur ⟨.next, rfl, k2⟩
theorem Ex.aug {x : Str} {pos' pos : Pos} {op : Operator} {e : Expr} {Q : Fl → List AO → Prop} (h : Ld W n ae H x fun a H1 => Ev W n ae H1 e fun b H2 => InP W n H2 op a b fun r H3 => St W n ae H3 x r fun H4 => Q .next H4) :
    Ex W n ae H (.AugAssign (.Name x pos') op e pos) Q := fun ρ env E => by
  rw [arm_exec_AugAssign]
  refine .stand (Tri.bind (h ρ env E) fun ρ1 H1 u l1 ⟨a, ha, k1⟩ => ?_)
  refine Tri.bind (.holding (k1 ρ1 env (E.mono l1))) fun ρ2 H2 y l2 ⟨b, hb, k2⟩ => ?_
  refine .stand (Tri.bind (.operate (k2 ρ2 u y (ha.mono l2) hb)) fun ρ3 H3 z l3 ⟨r, hr, k3⟩ => ?_)
  refine .stand ?_
  refine Tri.bind (Q := fun _ H' _ => Q .next H') ?_ fun _ _ _ _ k => .pur ⟨.next, rfl, k⟩
  refine Tri.bindS (fun _ => True) (.holding (.point ⟨rfl, rfl, trivial⟩)) fun _ _ => ?_
  exact Tri.bind (k3 _ env z (E.mono ((l1.trans l2).trans l3)) hr) fun _ _ _ _ q => .point q
theorem Ex.augAttr {o : Expr} {name : Str} {tpos pos : Pos} {op : Operator} {e : Expr} {Q : Fl → List AO → Prop}
    (h : Ev W n ae H o fun ov H1 => Gat W n H1 ov name fun a H2 => Ev W n ae H2 e fun b H3 => InP W n H3 op a b fun r H4 => Sat W n H4 ov name r fun H5 => Q .next H5) :
    Ex W n ae H (.AugAssign (.Attribute o name tpos) op e pos) Q := fun ρ env E => by
  rw [arm_exec_AugAssign_2]
  refine .stand (Tri.bind (h ρ env E) fun ρ1 H1 x l1 ⟨ov, hov, k1⟩ => ?_)
  refine Tri.bind (Q := fun ρ' H' z => Le ρ1 ρ' ∧ ∃ r : V, r.Rel ρ' z ∧ Sat W n H' ov name r fun H5 => Q .next H5) (.holding ?_) fun ρ2 H2 z l2 ⟨_, r, hr, k2⟩ => ?_
  · refine .stand (Tri.bind (k1 ρ1 x hov) fun ρ2 H2 u l2 ⟨a, ha, k2⟩ => ?_)
    refine Tri.bind (.holding (k2 ρ2 env (E.mono (l1.trans l2)))) fun ρ3 H3 y l3 ⟨b, hb, k3⟩ => ?_
    refine .stand (.operate ((k3 ρ3 u y (ha.mono l3) hb).mono fun ρ4 H4 z l4 ⟨r, hr, k4⟩ => ⟨(l2.trans l3).trans l4, r, hr, k4⟩))
  · refine .stand (Tri.bind (.holding (k2 ρ2 x z (hov.mono l2) hr)) fun ρ3 H3 _ l3 k3 => ?_)
    exact .release (.pur ⟨.next, rfl, k3⟩)
theorem Asg.attr {o : Expr} {name : Str} {pos : Pos} {v : V} {Q : List AO → Prop} (h : Ev W n ae H o fun ov H1 => Sat W n H1 ov name v Q) : Asg W n ae H (.Attribute o name pos) v Q := fun ρ env x E hv => by
  rw [arm_assign_Attribute]
  refine Tri.bind (.holding (h ρ env E)) fun ρ1 H1 y l1 ⟨ov, hov, k1⟩ => ?_
  refine .stand (Tri.bind (.holding (k1 ρ1 y x hov (hv.mono l1))) fun ρ2 H2 _ l2 k2 => ?_)
  exact .release' k2
theorem Asg.sub {o i : Expr} {pos : Pos} {v : V} {Q : List AO → Prop} (h : Ev W n ae H o fun ov H1 => Ev W n ae H1 i fun iv H2 => Sit W n H2 ov iv v Q) : Asg W n ae H (.Subscript o i pos) v Q := fun ρ env x E hv => by
  rw [arm_assign_Subscript]
  refine Tri.bind (.holding (h ρ env E)) fun ρ1 H1 y l1 ⟨ov, hov, k1⟩ => ?_
  refine Tri.bind (.holding (k1 ρ1 env (E.mono l1))) fun ρ2 H2 z l2 ⟨iv, hiv, k2⟩ => ?_
  refine .stand (Tri.bind (.holding (k2 ρ2 y z x (hov.mono l2) hiv (hv.mono (l1.trans l2)))) fun ρ3 H3 _ l3 k3 => ?_)
  exact .release' k3
end
end Mine

-- FILE A4
open PySem PySem.W PyProof.Rows
set_option Elab.async false
set_option autoImplicit false
namespace Mine

noncomputable def CTri (W : Wd) (n : Nat) (ρ : Rho) (H : List AO) (c : Code) (Q : Rho → List AO → Flow → Prop) : Prop :=
  ∀ A s, Room A n → HS W.B ρ H s.heap → s.gens = #[] → codeAny W.M A c (fun r s' => match r with | .ok f => ∃ ρ' H', Post W.B ρ s s' ρ' H' ∧ Q ρ' H' f | .error _ => False) s
noncomputable def Fi (W : Wd) (n : Nat) (Q : Rho → List AO → Flow → Prop) (ρ' : Rho) (H' : List AO) (fin : Fin) : Prop := match fin with
  | .done f => Q ρ' H' f
  | .again c' => c'.quiet = true ∧ CTri W n ρ' H' c' Q
section
variable {W : Wd} {n : Nat} {ae : AE} {H : List AO} {α β : Type} {ρ : Rho}

theorem Room.under {A : Around} {c : Code} (r : Room A (n + 1)) (hw : c.weight ≤ 3) (hu : c.cUnits ≤ 10) : Room (A.under c) n :=
  ⟨r.hd, by show A.depth + c.weight + 3 * n < 980; have := r.dp; lia, by show A.units + c.cUnits + 10 * n < 9800; have := r.un; lia⟩
theorem Room.le {A : Around} {m : Nat} (r : Room A n) (l : m ≤ n) : Room A m := ⟨r.hd, by have := r.dp; lia, by have := r.un; lia⟩
theorem CTri.core {c : Code} {Q : Rho → List AO → Flow → Prop} {m : Nat} (hr : ∀ A, Room A n → Room (A.under c) m) (h : Tri W m ρ H (denote table c) (Fi W n Q)) : CTri W n ρ H c Q := fun A s r hs g => by
  refine codeAny_of_tree ?_
  refine wpAny_mono (h _ s (hr A r) hs g) (fun fin s' ⟨ρ', H', p, q⟩ => ?_) fun _ _ e => e
  induction fin with
  | done f => exact ⟨ρ', H', p, q⟩
  | again c' =>
    refine ⟨q.1, codeAny_mono (q.2 A s' r p.hs (p.gens.trans g)) fun r s'' hr => ?_⟩
    induction r with
    | ok f => obtain ⟨ρ2, H2, p2, q2⟩ := hr; exact ⟨ρ2, H2, p.trans p2, q2⟩
    | error e => exact hr
theorem CTri.step {c : Code} {Q : Rho → List AO → Flow → Prop} (hw : c.weight ≤ 3) (hu : c.cUnits ≤ 10) (h : Tri W n ρ H (denote table c) (Fi W (n + 1) Q)) : CTri W (n + 1) ρ H c Q := CTri.core (fun _ r => r.under hw hu) h
theorem CTri.flat {c : Code} {Q : Rho → List AO → Flow → Prop} (hw : c.weight = 0) (hu : c.cUnits = 0) (h : Tri W n ρ H (denote table c) (Fi W n Q)) : CTri W n ρ H c Q :=
  CTri.core (fun A r => by rw [Around.under_of_weight hw hu]; exact r) h
theorem CTri.mono {c : Code} {Q Q' : Rho → List AO → Flow → Prop} (h : CTri W n ρ H c Q) (k : ∀ ρ' H' f, Le ρ ρ' → Q ρ' H' f → Q' ρ' H' f) : CTri W n ρ H c Q' := fun A s r hs g =>
  codeAny_mono (h A s r hs g) fun r s' hr => by
    induction r with
    | ok f => obtain ⟨ρ2, H2, p2, q2⟩ := hr; exact ⟨ρ2, H2, p2, k _ _ _ p2.le q2⟩
    | error e => exact hr
theorem Tri.run {c : Code} {Q : Rho → List AO → Flow → Prop} (h : CTri W n ρ H c Q) : Tri W n ρ H (PySem.run c) Q := fun A s r hs g =>
  wpAny_run (codeAny_mono (show codeAny W.M (A.mark none) c _ s from h A s r hs g) fun r s' hr => by
    induction r with
    | ok f => exact hr
    | error e => exact hr.elim)
theorem Tri.runOwn {c : Code} {env : Env} {Q : Rho → List AO → Flow → Prop} (h : CTri W n ρ H c Q) : Tri W n ρ H (PySem.runOwn c env) Q := by
  exact .onRaise (.run h)
theorem Tri.runValue {c : Code} {Q : Rho → List AO → Value → Prop} (h : CTri W n ρ H c fun ρ' H' f => ∃ v, f = .ret v ∧ Q ρ' H' v) : Tri W n ρ H (PySem.runValue c) Q := by
  refine Tri.bind (.run h) fun ρ1 H1 f l ⟨v, e, q⟩ => ?_
  subst e
  exact .pur q
theorem Tri.call {f : Value} {pos : List Value} {kw : List (Str × Value)} {Q : Rho → List AO → Value → Prop} (h : CTri W n ρ H (.call f ⟨pos, kw⟩) fun ρ' H' f => ∃ v, f = .ret v ∧ Q ρ' H' v) : Tri W n ρ H (PySem.call f pos kw) Q := .runValue h
theorem Tri.again {c : Code} {Q : Rho → List AO → Flow → Prop} (hq : c.quiet = true) (h : CTri W n ρ H c Q) {m : Nat} : Tri W m ρ H (PySem.again c) (Fi W n Q) := .pur ⟨hq, h⟩
theorem Tri.ret {v : Value} {Q : Rho → List AO → Flow → Prop} (h : Q ρ H (.ret v)) {m : Nat} : Tri W m ρ H (PySem.ret v) (Fi W n Q) := .pur h

/-! ### a frame is laid -/
noncomputable def layC : List (Str × NameKind) → List (Str × Nat) → List AO → List (Str × Nat) × List AO
  | [], cs, H => (cs, H)
  | (x, k) :: r, cs, H => if k == .cell then layC r ((x, H.length) :: cs) (H ++ [.cell none]) else layC r cs H
noncomputable def Binds (W : Wd) (n : Nat) (ae : AE) : List (Str × V) → List AO → (List AO → Prop) → Prop
  | [], H, Q => Q H
  | (x, v) :: r, H, Q => St W n ae H x v fun H1 => Binds W n ae r H1 Q
noncomputable def KV (ρ : Rho) : List (Str × V) → List (Str × Value) → Prop
  | [], [] => True
  | (x, v) :: r, (y, u) :: s => x = y ∧ v.Rel ρ u ∧ KV ρ r s
  | _, _ => False
theorem KV.mono {ρ ρ' : Rho} (h : Le ρ ρ') : ∀ {vs : List (Str × V)} {xs : List (Str × Value)}, KV ρ vs xs → KV ρ' vs xs
  | [], [], _ => trivial
  | _ :: _, _ :: _, e => ⟨e.1, e.2.1.mono h, KV.mono h e.2.2⟩
  | [], _ :: _, e => e.elim
  | _ :: _, [], e => e.elim

theorem Tri.layCells (f : (Str × NameKind) → List (Str × Addr) → Sem (ForInStep (List (Str × Addr))))
    (hf : ∀ x k cs, f (x, k) cs = if k == .cell then (do let a ← PySem.alloc { cls := .type "cell", data := .cell none }; pure (.yield ((x, a) :: cs))) else pure (.yield cs))
    (Q : Rho → List AO → List (Str × Addr) → Prop) : ∀ (names : List (Str × NameKind)) (ρ : Rho) (H : List AO) (cs : List (Str × Addr)) (ac : List (Str × Nat)), CellsRel ρ ac cs →
      (∀ ρ' cs', Le ρ ρ' → CellsRel ρ' (layC names ac H).1 cs' → Q ρ' (layC names ac H).2 cs') → Tri W n ρ H (forIn names cs f) Q
  | [], ρ, H, cs, ac, hc, k => by rw [List.forIn_nil]; exact .pur (k ρ cs (.refl _) hc)
  | (x, kd) :: r, ρ, H, cs, ac, hc, k => .withLen fun hl => by
    rw [List.forIn_cons, hf]
    by_cases hk : (kd == NameKind.cell) = true
    · rw [if_pos hk]
      have e : layC ((x, kd) :: r) ac H = layC r ((x, H.length) :: ac) (H ++ [.cell none]) := (if_pos hk : (if kd == .cell then layC r ((x, H.length) :: ac) (H ++ [.cell none]) else layC r ac H) = _)
      rw [e] at k
      refine Tri.bind (Q := fun ρ' H' b => ∃ a, ρ' = ρ ++ [a] ∧ H' = H ++ [AO.cell none] ∧ b = ForInStep.yield ((x, a) :: cs)) (Tri.bind (.alloc (.cell none) (Q := fun ρ' H' a => ρ' = ρ ++ [a] ∧ H' = H ++ [.cell none]) rfl (fun a => ⟨none, rfl, trivial⟩) fun a => ⟨rfl, rfl⟩) fun ρ1 H1 a _ ⟨e1, e2⟩ => .pur ⟨a, e1, e2, rfl⟩) fun ρ1 H1 b l1 ⟨a, e1, e2, e3⟩ => ?_
      subst e1 e2 e3
      exact Tri.layCells f hf Q r _ _ _ ((x, H.length) :: ac) ⟨rfl, by rw [← hl]; simp, hc.mono l1⟩ fun ρ' cs' l q => k ρ' cs' (l1.trans l) q
    · rw [if_neg hk]
      have e : layC ((x, kd) :: r) ac H = layC r ac H := (if_neg hk : (if kd == .cell then layC r ((x, H.length) :: ac) (H ++ [.cell none]) else layC r ac H) = _)
      rw [e] at k
      refine Tri.bindS (fun b => b = ForInStep.yield cs) (.pur ⟨rfl, rfl, rfl⟩) fun b e3 => ?_
      subst e3
      exact Tri.layCells f hf Q r _ _ _ _ hc k
theorem Tri.storeAll {env : Env} {ae : AE} (f : (Str × Value) → PUnit → Sem (ForInStep PUnit)) (hf : ∀ x v u, f (x, v) u = (do storeName env x v; pure (.yield ⟨⟩)))
    (Q : Rho → List AO → PUnit → Prop) : ∀ (bs : List (Str × V)) (ys : List (Str × Value)) (ρ : Rho) (H : List AO), EnvIs ρ ae env → KV ρ bs ys →
      Binds W n ae bs H (fun H' => ∀ ρ', Le ρ ρ' → Q ρ' H' ⟨⟩) → Tri W n ρ H (forIn ys ⟨⟩ f) Q
  | [], [], ρ, H, _, _, k => by rw [List.forIn_nil]; exact .pur (k ρ (.refl _))
  | (x, v) :: bs, (y, u) :: ys, ρ, H, E, ⟨e1, e2, e3⟩, k => by
    subst e1
    rw [List.forIn_cons, hf]
    refine Tri.bind (Q := fun ρ' H' b => b = ForInStep.yield PUnit.unit ∧ Binds W n ae bs H' (fun H' => ∀ ρ', Le ρ ρ' → Q ρ' H' ⟨⟩)) (Tri.bind (k ρ env u E e2) fun ρ1 H1 _ _ q => .pur ⟨rfl, q⟩) fun ρ1 H1 b l1 ⟨e4, k1⟩ => ?_
    subst e4
    refine Tri.storeAll f hf Q bs ys ρ1 H1 (E.mono l1) (e3.mono l1) ?_
    have mono : ∀ (bs : List (Str × V)) (H : List AO) (P P' : List AO → Prop), (∀ H, P H → P' H) → Binds W n ae bs H P → Binds W n ae bs H P' := by
      intro bs
      induction bs with
      | nil => intro H P P' hp hb; exact hp _ hb
      | cons b bs ih => intro H P P' hp hb; exact fun ρ env y E hv => (hb ρ env y E hv).mono fun _ _ _ _ q => ih _ _ _ hp q
    exact mono _ _ _ _ (fun H' q ρ' l => q ρ' (l1.trans l)) k1
  | [], _ :: _, _, _, _, e, _ => e.elim
  | _ :: _, [], _, _, _, e, _ => e.elim

noncomputable def calleeAE (scope : Scope) (cells : List (Str × Nat)) (qual : Str) (code : Option Addr) (H : List AO) : AE :=
  { scope, loc := H.length, cells := (layC scope.names cells (H ++ [.ns []])).1, qual, code }
theorem Tri.newFunctionEnv {scope : Scope} {closure : List (Str × Addr)} {cells : List (Str × Nat)} {bs : List (Str × V)} {ys : List (Str × Value)} {qual : Str} {func : Option Addr} {code : Value} {cv : Option Addr} {Q : AE → List AO → Prop}
    (hc : CellsRel ρ cells closure) (hb : KV ρ bs ys) (hcode : CodeIs cv code)
    (h : Binds W n (calleeAE scope cells qual cv H) bs (layC scope.names cells (H ++ [.ns []])).2 (Q (calleeAE scope cells qual cv H))) :
    Tri W n ρ H (PySem.newFunctionEnv scope mainGlobals closure ys qual func code none builtinsNs) (fun ρ' H' env => ∃ ae, EnvIs ρ' ae env ∧ Q ae H') := .withLen fun hl => by
  unfold PySem.newFunctionEnv
  simp only [Option.isSome_none, Bool.false_eq_true, if_false]
  refine Tri.bind (.alloc (.ns []) (Q := fun ρ' H' a => ρ' = ρ ++ [a] ∧ H' = H ++ [.ns []]) rfl (fun a => ⟨#[], 0, rfl, fun _ he => by simp at he, Nat.le_refl _, fun x => trivial⟩) fun a => ⟨rfl, rfl⟩) fun ρ1 H1 a l1 ⟨e1, e2⟩ => ?_
  subst e1 e2
  have ha : (ρ ++ [a])[H.length]? = some a := by rw [← hl]; simp
  refine Tri.bind (Tri.layCells _ (fun x k cs => ?_) (fun ρ' H' cs' => Le (ρ ++ [a]) ρ' ∧ H' = (layC scope.names cells (H ++ [.ns []])).2 ∧ CellsRel ρ' (layC scope.names cells (H ++ [.ns []])).1 cs') scope.names _ _ closure cells (hc.mono l1) fun ρ' cs' l q => ⟨l, rfl, q⟩) fun ρ2 H2 cs l2 ⟨_, e4, e5⟩ => ?_
  · by_cases hk : (k == NameKind.cell) = true
    · simp only [hk, if_true]
    · simp only [hk]
  subst e4
  have l12 := l1.trans l2
  have E : EnvIs ρ2 (calleeAE scope cells qual cv H) { scope, locals := a, globals := mainGlobals, cells := cs, qual, func, code, frame := some a, builtins := builtinsNs } :=
    ⟨rfl, l2.get ha, rfl, rfl, e5, rfl, hcode⟩
  refine Tri.bind (Tri.storeAll _ (fun x v u => rfl) (fun ρ' H' _ => Le ρ2 ρ' ∧ Q (calleeAE scope cells qual cv H) H') bs ys ρ2 _ E (hb.mono l12) ?_) fun ρ3 H3 _ l3 ⟨_, q⟩ => .pur ⟨_, E.mono l3, q⟩
  have mono : ∀ (bs : List (Str × V)) (H0 : List AO) (P P' : List AO → Prop), (∀ H, P H → P' H) → Binds W n (calleeAE scope cells qual cv H) bs H0 P → Binds W n (calleeAE scope cells qual cv H) bs H0 P' := by
    intro bs
    induction bs with
    | nil => intro H P P' hp hb; exact hp _ hb
    | cons b bs ih => intro H P P' hp hb; exact fun ρ env y E hv => (hb ρ env y E hv).mono fun _ _ _ _ q => ih _ _ _ hp q
  exact mono _ _ _ _ (fun H' q ρ' l => ⟨l, q⟩) h

theorem Tri.enterFrame {gl : Str → Option Value} (hB : Base W gl) {Q : Rho → List AO → Unit → Prop} (h : Q ρ H ()) : Tri W n ρ H (PySem.enterFrame) Q :=
  .quiet fun A s r hs _ => wpAny_enterFrame (hB.nolimit.keeps hs.keep) (by have := r.dp; unfold recursionLimit; lia) ⟨rfl, rfl, rfl, h⟩

structure CInfo where
  params : Arguments
  body : FuncBody
  scope : Scope
  qual : Str
  defaults : Value
  kwdefaults : Value
  cells : List (Str × Nat)
  code : Option Addr
structure FdIs (ρ : Rho) (c : CInfo) (fd : FuncData) : Prop where
  params : fd.params = c.params
  body : fd.body = c.body
  scope : fd.scope = c.scope
  qual : fd.qualname = c.qual
  defaults : fd.defaults = c.defaults
  kwdefaults : fd.kwdefaults = c.kwdefaults
  cells : CellsRel ρ c.cells fd.closure
  code : CodeIs c.code fd.code
  gl : fd.globals = mainGlobals
  bl : fd.builtins = builtinsNs
/-- the value is a function of this make -/
noncomputable def Callable (W : Wd) (H : List AO) (f : V) (c : CInfo) : Prop :=
  ∀ ρ x (h : Heap), f.Rel ρ x → HS W.B ρ H h → ∃ a o fd, x = .ref a ∧ h.get? a = some o ∧ o.data = .func fd ∧ FdIs ρ c fd ∧ h.CodeRec fd.code fd.qualname
theorem Callable.base {a : Addr} {o : Obj} {fd : FuncData} {c : CInfo} (ho : W.B.get? a = some o) (hd : o.data = .func fd) (hc : ∀ ρ, FdIs ρ c fd) (hr : W.B.heap.CodeRec fd.code fd.qualname) : Callable W H (.gref a) c :=
  fun ρ x h hx hs => ⟨a, o, fd, hx, hs.keep _ _ ho, hd, hc ρ, hr.keeps hs.keep⟩
theorem Callable.ref {i : Nat} {f : AFn} (hi : H[i]? = some (.fn f)) :
    Callable W H (.ref i) ⟨f.params, f.body, f.scope, f.qual, .none, .none, f.cells, none⟩ := fun ρ x h ⟨a, ha, hx⟩ hs => by
  obtain ⟨o, ho, ⟨_, _, fd, c1, c2, c3, c4, c5, c6, c7, c8, c9, c10, c11⟩, hp⟩ := hs.ent i a _ ha hi
  exact ⟨a, o, fd, hx, ho, c1, ⟨c2, c3, c4, c5, c9, c10, c11, trivial, c7, c8⟩, by rw [c5]; exact (hp fd c1).rec⟩

noncomputable def Bnd (W : Wd) (n : Nat) (H : List AO) (c : CInfo) (as : List V) (kn : List Str) (kv : List V) (bs : List (Str × V)) : Prop :=
  ∀ ρ xs ys fd, VL ρ as xs → VL ρ kv ys → FdIs ρ c fd → Tri W n ρ H (bindArgs fd ⟨xs, kn.zip ys⟩) (Same ρ H fun bs' => KV ρ bs bs')


noncomputable def ClC (W : Wd) (n : Nat) (H : List AO) (f : V) (as : List V) (kn : List Str) (kv : List V) (Q : V → List AO → Prop) : Prop :=
  ∀ ρ x xs ys, f.Rel ρ x → VL ρ as xs → VL ρ kv ys → CTri W n ρ H (.call x ⟨xs, kn.zip ys⟩) fun ρ' H' f => ∃ v, f = .ret v ∧ Val Q ρ' H' v
theorem ClC.cl {H : List AO} {f : V} {as : List V} {kn : List Str} {kv : List V} {Q : V → List AO → Prop} (h : ClC W n H f as kn kv Q) : Cl W n H f as kn kv Q := fun ρ x xs ys hx hxs hys => .call (h ρ x xs ys hx hxs hys)
/-- a call of a function of the text -/
theorem ClC.fn {gl : Str → Option Value} (hB : Base W gl) {f : V} {c : CInfo} {as : List V} {kn : List Str} {kv : List V} {bs : List (Str × V)} {Q : V → List AO → Prop}
    (hf : Callable W H f c) (hb : Bnd W n H c as kn kv bs) (hco : c.scope.isCoroutine = false) (hgen : c.scope.isGenerator = false)
    (h : Binds W n (calleeAE c.scope c.cells (c.qual ++ ".<locals>.") c.code H) bs (layC c.scope.names c.cells (H ++ [.ns []])).2 fun H1 => match c.body with
      | .stmts b => Exs W n (calleeAE c.scope c.cells (c.qual ++ ".<locals>.") c.code H) H1 b fun fl H2 => Q (match fl with | .ret v => v | _ => .none) H2
      | .expr e => Ev W n (calleeAE c.scope c.cells (c.qual ++ ".<locals>.") c.code H) H1 e Q) : ClC W (n + 1) H f as kn kv Q := fun ρ x xs ys hx hxs hys => by
  refine CTri.step (Nat.le_of_ble_eq_true rfl) (Nat.le_of_ble_eq_true rfl) ?_
  show Tri W n ρ H (callAny x ⟨xs, kn.zip ys⟩) _
  intro A s r hs g
  obtain ⟨a, o, fd, e1, ho, hd, hfd, hcr⟩ := hf ρ x s.heap hx hs
  subst e1
  refine wpAny_bind (wpAny_load ho ?_)
  obtain ⟨cc, oc, vs, tq, hc, hoc, hdc, hq⟩ := hcr
  have hco' : fd.scope.isCoroutine = false := by rw [hfd.scope]; exact hco
  have hgen' : fd.scope.isGenerator = false := by rw [hfd.scope]; exact hgen
  rw [hd]
  dsimp only
  unfold callFunction
  rw [hc]
  refine wpAny_bind (m := field (.ref cc) 1) (wpAny_field hoc hdc hq (wpAny_bind (wpAny_pure ?_)))
  rw [hco', hgen', hfd.scope, hfd.gl, hfd.bl, hfd.qual]
  have key : Tri W n ρ H (do
      let env ← PySem.newFunctionEnv c.scope mainGlobals fd.closure (← bindArgs fd ⟨xs, kn.zip ys⟩) (c.qual ++ ".<locals>.") (some a) (.ref cc) none builtinsNs
      PySem.enterFrame
      PySem.again (match fd.body with | .stmts b => .func b env | .expr e => .expr e env)) (Fi W (n + 1) fun ρ' H' f => ∃ v, f = .ret v ∧ Val Q ρ' H' v) := by
    refine Tri.bindS (fun bs' => KV ρ bs bs') (hb ρ xs ys fd hxs hys hfd) fun bs' hbs => ?_
    have hcode := hfd.code
    rw [hc] at hcode
    refine Tri.bind (Tri.newFunctionEnv (Q := fun ae H1 => ae = calleeAE c.scope c.cells (c.qual ++ ".<locals>.") c.code H ∧ (match c.body with
        | .stmts b => Exs W n (calleeAE c.scope c.cells (c.qual ++ ".<locals>.") c.code H) H1 b fun fl H2 => Q (match fl with | .ret v => v | _ => .none) H2
        | .expr e => Ev W n (calleeAE c.scope c.cells (c.qual ++ ".<locals>.") c.code H) H1 e Q)) hfd.cells hbs hcode ?_) fun ρ1 H1 env l1 ⟨ae, E, e1, k⟩ => ?_
    · have mono : ∀ (bs : List (Str × V)) (H0 : List AO) (P P' : List AO → Prop), (∀ H, P H → P' H) → Binds W n (calleeAE c.scope c.cells (c.qual ++ ".<locals>.") c.code H) bs H0 P → Binds W n (calleeAE c.scope c.cells (c.qual ++ ".<locals>.") c.code H) bs H0 P' := by
        intro bs
        induction bs with
        | nil => intro H P P' hp hb; exact hp _ hb
        | cons b bs ih => intro H P P' hp hb; exact fun ρ env y E hv => (hb ρ env y E hv).mono fun _ _ _ _ q => ih _ _ _ hp q
      exact mono _ _ _ _ (fun H1 q => ⟨rfl, q⟩) h
    subst e1
    refine Tri.bindS (fun _ => True) (.enterFrame hB ⟨rfl, rfl, trivial⟩) fun _ _ => ?_
    rw [hfd.body]
    cases hbd : c.body with
    | stmts b =>
      rw [hbd] at k
      refine .again rfl (CTri.step (Nat.le_of_ble_eq_true rfl) (Nat.le_of_ble_eq_true rfl) ?_)
      show Tri W n ρ1 H1 (do PySem.point; match ← (execs b env).onRaise (leaving env) with | .ret v => PySem.ret v | _ => PySem.ret .none) _
      refine .pointB (Tri.bind (.onRaise (k ρ1 env E)) fun ρ2 H2 f l2 ⟨fl, hfl, q⟩ => ?_)
      induction fl with
      | ret v => obtain ⟨y, rfl, hy⟩ := hfl; exact .ret ⟨y, rfl, v, hy, q⟩
      | next => cases hfl; exact .ret ⟨_, rfl, .none, rfl, q⟩
      | brk => cases hfl; exact .ret ⟨_, rfl, .none, rfl, q⟩
      | cont => cases hfl; exact .ret ⟨_, rfl, .none, rfl, q⟩
    | expr e =>
      rw [hbd] at k
      refine .again rfl (CTri.step (Nat.le_of_ble_eq_true rfl) (Nat.le_of_ble_eq_true rfl) ?_)
      show Tri W n ρ1 H1 (do PySem.point; PySem.ret (← (eval e env).onRaise (leaving env))) _
      exact .pointB (Tri.bind (.onRaise (k ρ1 env E)) fun ρ2 H2 y l2 ⟨v, hv, q⟩ => .ret ⟨y, rfl, v, hv, q⟩)
  exact key A s r hs g
theorem Cl.fn {gl : Str → Option Value} (hB : Base W gl) {f : V} {c : CInfo} {as : List V} {kn : List Str} {kv : List V} {bs : List (Str × V)} {Q : V → List AO → Prop}
    (hf : Callable W H f c) (hb : Bnd W n H c as kn kv bs) (hco : c.scope.isCoroutine = false) (hgen : c.scope.isGenerator = false)
    (h : Binds W n (calleeAE c.scope c.cells (c.qual ++ ".<locals>.") c.code H) bs (layC c.scope.names c.cells (H ++ [.ns []])).2 fun H1 => match c.body with
      | .stmts b => Exs W n (calleeAE c.scope c.cells (c.qual ++ ".<locals>.") c.code H) H1 b fun fl H2 => Q (match fl with | .ret v => v | _ => .none) H2
      | .expr e => Ev W n (calleeAE c.scope c.cells (c.qual ++ ".<locals>.") c.code H) H1 e Q) : Cl W (n + 1) H f as kn kv Q := (ClC.fn hB hf hb hco hgen h).cl
end
end Mine

-- FILE A5
open PySem PySem.W PyProof.Rows
set_option Elab.async false
set_option autoImplicit false
namespace Mine

noncomputable def Own (W : Wd) (n : Nat) (H : List AO) (t : Expr) (it v : V) (Q : List AO → Prop) : Prop := ∀ ρ x y, it.Rel ρ x → v.Rel ρ y → Tri W n ρ H (letOwnedTupleGo t x y) (fun _ H' _ => Q H')
noncomputable def Whl (W : Wd) (n : Nat) (ae : AE) (H : List AO) (t : Expr) (b o : List Stmt) (Q : Fl → List AO → Prop) : Prop := ∀ ρ env, EnvIs ρ ae env → CTri W n ρ H (.whileLoop t b o env) (Flw Q)
noncomputable def For (W : Wd) (n : Nat) (ae : AE) (H : List AO) (t : Expr) (it : V) (b o : List Stmt) (Q : Fl → List AO → Prop) : Prop := ∀ ρ env x, EnvIs ρ ae env → it.Rel ρ x → CTri W n ρ H (.forLoop t x b o env) (Flw Q)
noncomputable def Cmp' (W : Wd) (n : Nat) (ae : AE) (H : List AO) (e : Expr) (d : Nat) (it acc : V) (Q : List AO → Prop) : Prop :=
  ∀ ρ env x y, EnvIs ρ ae env → it.Rel ρ x → acc.Rel ρ y → CTri W n ρ H (.compLoop e d x y env) (fun _ H' f => f = .next ∧ Q H')
noncomputable def CmpS (W : Wd) (n : Nat) (ae : AE) (H : List AO) (e : Expr) (d : Nat) (it acc : V) (Q : List AO → Prop) : Prop :=
  ∀ ρ env x y, EnvIs ρ ae env → it.Rel ρ x → acc.Rel ρ y → CTri W n ρ H (.compStart e d x y env) (fun _ H' f => f = .next ∧ Q H')
section
variable {W : Wd} {n : Nat} {ae : AE} {H : List AO} {α β : Type} {ρ : Rho}

theorem Own.name {x : Str} {pos : Pos} {it v : V} {Q : List AO → Prop} (h : Q H) : Own W n H (.Name x pos) it v Q := fun _ _ _ _ _ => .pur h

theorem Tri.execBlock {b : List Stmt} {env : Env} {Q : Fl → List AO → Prop} (h : Exs W n ae H b Q) (E : EnvIs ρ ae env) : CTri W n ρ H (.block b env) (Flw Q) := by
  refine CTri.flat rfl rfl ?_
  show Tri W n ρ H (do return Fin.done (← (execs b env).onRaise (fun x => do noteFrame x env; theTreesLotGoes x))) _
  exact Tri.bind (.onRaise (h ρ env E)) fun _ _ _ _ k => .pur k

theorem Whl.turn {t : Expr} {b o : List Stmt} {Q : Fl → List AO → Prop}
    (h : EvT W n ae H t fun c H1 => (c = true → Exs W n ae H1 b fun fl H2 => match fl with | .brk => Q .next H2 | .ret v => Q (.ret v) H2 | _ => Whl W n ae H2 t b o Q) ∧ (c = false → Exs W n ae H1 o Q)) : Whl W n ae H t b o Q := fun ρ env E => by
  refine CTri.flat rfl rfl ?_
  show Tri W n ρ H ((whileTurn t b o env).onRaise (fun x => do noteFrame x env; theTreesLotGoes x)) _
  refine .onRaise ?_
  refine Tri.bind (h ρ env E) fun ρ1 H1 c l1 k1 => ?_
  induction c with
  | false => exact Tri.bind (k1.2 rfl ρ1 env (E.mono l1)) fun _ _ _ _ k => .pur k
  | true =>
    refine Tri.bind (k1.1 rfl ρ1 env (E.mono l1)) fun ρ2 H2 f l2 ⟨fl, hf, k2⟩ => ?_
    induction fl with
    | next => cases hf; exact .again rfl (k2 ρ2 env (E.mono (l1.trans l2)))
    | cont => cases hf; exact .again rfl (k2 ρ2 env (E.mono (l1.trans l2)))
    | brk => cases hf; exact .pur ⟨.next, rfl, k2⟩
    | ret v => obtain ⟨x, rfl, hx⟩ := hf; exact .pur ⟨.ret v, ⟨x, rfl, hx⟩, k2⟩
theorem Ex.while {t : Expr} {b o : List Stmt} {pos : Pos} {Q : Fl → List AO → Prop} (h : Whl W n ae H t b o Q) : Ex W n ae H (.While t b o pos) Q := fun ρ env E => by
  rw [arm_exec_While]
  exact .stand (.runOwn (h ρ env E))
theorem For.turn {t : Expr} {it : V} {b o : List Stmt} {Q : Fl → List AO → Prop}
    (h : Nxt W n H it fun ov H1 => match ov with
      | none => Exs W n ae H1 o Q
      | some v => Own W n H1 t it v fun H2 => Asg W n ae H2 t v fun H3 => Exs W n ae H3 b fun fl H4 => match fl with | .brk => Q .next H4 | .ret v => Q (.ret v) H4 | _ => For W n ae H4 t it b o Q) : For W n ae H t it b o Q := fun ρ env x E hx => by
  refine CTri.flat rfl rfl ?_
  show Tri W n ρ H ((forTurn t x b o env).onRaise (fun x => do noteFrame x env; theTreesLotGoes x)) _
  refine .onRaise ?_
  refine .stand (Tri.bind (.onRaise (h ρ x hx)) fun ρ1 H1 ov l1 ⟨w, hw, k1⟩ => ?_)
  induction w with
  | none =>
    induction ov with
    | some _ => exact hw.elim
    | none => exact .again rfl (Tri.execBlock k1 (E.mono l1))
  | some v =>
    induction ov with
    | none => exact hw.elim
    | some y =>
      refine Tri.bind (k1 ρ1 x y (hx.mono l1) hw) fun ρ2 H2 _ l2 k2 => ?_
      refine Tri.bind (k2 ρ2 env y (E.mono (l1.trans l2)) (V.Rel.mono l2 hw)) fun ρ3 H3 _ l3 k3 => ?_
      refine Tri.bind (k3 ρ3 env (E.mono ((l1.trans l2).trans l3))) fun ρ4 H4 f l4 ⟨fl, hf, k4⟩ => ?_
      have l := ((l1.trans l2).trans l3).trans l4
      induction fl with
      | next => cases hf; exact .again rfl (k4 ρ4 env x (E.mono l) (hx.mono l))
      | cont => cases hf; exact .again rfl (k4 ρ4 env x (E.mono l) (hx.mono l))
      | brk => cases hf; exact .pur ⟨.next, rfl, k4⟩
      | ret v => obtain ⟨x, rfl, hx⟩ := hf; exact .pur ⟨.ret v, ⟨x, rfl, hx⟩, k4⟩
theorem Ex.for {t i : Expr} {b o : List Stmt} {pos : Pos} {Q : Fl → List AO → Prop} (hs : ∀ env x, foldedSetIterable i env x = pure x) (h : Ev W n ae H i fun v H1 => Ite W n H1 v fun it H2 => For W n ae H2 t it b o Q) : Ex W n ae H (.For t i b o pos) Q := fun ρ env E => by
  rw [arm_exec_For]
  refine .stand (Tri.bind (h ρ env E) fun ρ1 H1 x l1 ⟨v, hv, k1⟩ => ?_)
  rw [hs]
  refine Tri.bindS (fun y => y = x) (.pur ⟨rfl, rfl, rfl⟩) fun _ e => ?_
  subst e
  refine .stand (Tri.bind (.holding (k1 ρ1 _ hv)) fun ρ2 H2 y l2 ⟨it, hit, k2⟩ => ?_)
  exact .runOwn (k2 ρ2 env y (E.mono (l1.trans l2)) hit)

/-! ### comprehensions -/
theorem Cmp'.turn {elt : Expr} {gens : List Comprehension} {scope : Scope} {pos : Pos} {d : Nat} {g : Comprehension} {it acc : V} {Q : List AO → Prop} (hg : gens[d]? = some g) (ha : g.is_async = 0) (hi : g.ifs = [])
    (h : Nxt W n H it fun ov H1 => match ov with
      | none => Q H1
      | some v => Own W n H1 g.target it v fun H2 => Asg W n ae H2 g.target v fun H3 => match gens[d + 1]? with
        | none => Ev W n ae H3 elt fun u H4 => Cl W n H4 (.bi "list.append") [acc, u] [] [] fun _ H5 => Cmp' W n ae H5 (.ListComp elt gens scope pos) d it acc Q
        | some g' => (∀ env x, foldedSetIterable g'.iter env x = pure x) ∧ g'.is_async = 0 ∧ Ev W n ae H3 g'.iter fun x H4 => Ite W n H4 x fun it' H5 => CmpS W n ae H5 (.ListComp elt gens scope pos) (d + 1) it' acc fun H6 => Cmp' W n ae H6 (.ListComp elt gens scope pos) d it acc Q) :
    Cmp' W n ae H (.ListComp elt gens scope pos) d it acc Q := fun ρ env x y E hx hy => by
  refine CTri.flat rfl rfl ?_
  show Tri W n ρ H ((compTurn (.ListComp elt gens scope pos) d x y env).onRaise (fun x => do noteFrame x env; theTreesLotGoes x)) _
  refine .onRaise ?_
  unfold compTurn
  dsimp only
  rw [hg]
  dsimp only
  rw [ha, hi]
  refine .stand (Tri.bind (m := pyNext x) (h ρ x hx) fun ρ1 H1 ov l1 ⟨w, hw, k1⟩ => ?_)
  induction w with
  | none =>
    induction ov with
    | some _ => exact hw.elim
    | none => exact .pur ⟨rfl, k1⟩
  | some v =>
    induction ov with
    | none => exact hw.elim
    | some z =>
      dsimp only at k1 ⊢
      refine Tri.bind (k1 ρ1 x z (hx.mono l1) hw) fun ρ2 H2 _ l2 k2 => ?_
      refine Tri.bind (k2 ρ2 env z (E.mono (l1.trans l2)) (V.Rel.mono l2 hw)) fun ρ3 H3 _ l3 k3 => ?_
      have l := (l1.trans l2).trans l3
      refine Tri.bindS (fun b => b = true) (by rw [List.forIn_nil]; exact .pur ⟨rfl, rfl, rfl⟩) fun b e => ?_
      subst e
      rw [if_pos rfl]
      cases hg' : gens[d + 1]? with
      | none =>
        rw [hg'] at k3
        refine Tri.bind (Q := fun ρ' H' _ => Le ρ3 ρ' ∧ Cmp' W n ae H' (.ListComp elt gens scope pos) d it acc Q) ?_ fun ρ4 H4 _ l4 ⟨_, k4⟩ => .again rfl (k4 ρ4 env x y (E.mono (l.trans l4)) (hx.mono (l.trans l4)) (hy.mono (l.trans l4)))
        refine Tri.bind (k3 ρ3 env (E.mono l)) fun ρ4 H4 u l4 ⟨uv, hu, k4⟩ => ?_
        refine Tri.bind (k4 ρ4 _ [y, u] [] rfl ⟨hy.mono (l.trans l4), hu, trivial⟩ trivial) fun ρ5 H5 _ l5 ⟨_, _, k5⟩ => .pur ⟨l4.trans l5, k5⟩
      | some g' =>
        rw [hg'] at k3
        dsimp only at k3 ⊢
        refine Tri.bind (k3.2.2 ρ3 env (E.mono l)) fun ρ4 H4 u l4 ⟨uv, hu, k4⟩ => ?_
        refine .stand ?_
        rw [k3.2.1, k3.1]
        refine Tri.bindS (fun b => b = u) (.pur ⟨rfl, rfl, rfl⟩) fun _ e => ?_
        subst e
        refine Tri.bind (.holding (k4 ρ4 _ hu)) fun ρ5 H5 z l5 ⟨it', hit, k5⟩ => ?_
        have l' := (l.trans l4).trans l5
        refine Tri.bind (.runOwn (k5 ρ5 env z y (E.mono l') hit (hy.mono l'))) fun ρ6 H6 _ l6 ⟨_, k6⟩ => ?_
        exact .again rfl (k6 ρ6 env x y (E.mono (l'.trans l6)) (hx.mono (l'.trans l6)) (hy.mono (l'.trans l6)))
theorem CmpS.start {elt : Expr} {gens : List Comprehension} {scope : Scope} {pos : Pos} {d : Nat} {g : Comprehension} {it acc : V} {Q : List AO → Prop} (hg : gens[d]? = some g) (ha : g.is_async = 0)
    (hi : Ite W n H it fun v H' => v = it ∧ H' = H) (h : Cmp' W n ae H (.ListComp elt gens scope pos) d it acc Q) : CmpS W n ae H (.ListComp elt gens scope pos) d it acc Q := fun ρ env x y E hx hy => by
  refine CTri.flat rfl rfl ?_
  show Tri W n ρ H ((compStart (.ListComp elt gens scope pos) d x y env).onRaise (fun x => do noteFrame x env; standAt theWindowsPlace)) _
  refine .onRaise ?_
  unfold compStart
  have e : (clausesOf (.ListComp elt gens scope pos))[d]? = some g := hg
  rw [e]
  simp only [Option.elim_some, ha]
  refine Tri.bindS (fun b => b = ⟨W.prog, W.w.params⟩) (.ask ⟨rfl, rfl, rfl⟩) fun b e => ?_
  subst e
  by_cases hf : W.w.params.followText "comprehension-iter-twice" = true
  · simp only [hf, if_true]
    exact .again rfl (h ρ env x y E hx hy)
  · simp only [hf]
    refine .ruleB (.stand (Tri.bind (hi ρ x hx) fun ρ1 H1 z l1 ⟨v, hv, e1, e2⟩ => ?_))
    subst e1 e2
    exact .again rfl (h ρ1 env z y (E.mono l1) hv (hy.mono l1))

noncomputable def closA (cells : List (Str × Nat)) : List (Str × NameKind) → List (Str × Nat) → Option (List (Str × Nat))
  | [], acc => some acc
  | (x, k) :: r, acc => if k == .free then (match cells.lookup x with | some i => closA cells r ((x, i) :: acc) | none => none) else closA cells r acc
theorem closA_c {cells : List (Str × Nat)} {x : Str} {k : NameKind} {r : List (Str × NameKind)} {acc : List (Str × Nat)} : closA cells ((x, k) :: r) acc = if k == .free then (match cells.lookup x with | some i => closA cells r ((x, i) :: acc) | none => none) else closA cells r acc := rfl
theorem Tri.closureFor {scope : Scope} {env : Env} {cs : List (Str × Nat)} {Q : Rho → List AO → List (Str × Addr) → Prop} (E : EnvIs ρ ae env) (h : closA ae.cells scope.names [] = some cs) (k : ∀ xs, CellsRel ρ cs xs → Q ρ H xs) : Tri W n ρ H (PySem.closureFor scope env) Q := by
  have main : ∀ (names : List (Str × NameKind)) (acc : List (Str × Nat)) (ys : List (Str × Addr)) (f : (Str × NameKind) → List (Str × Addr) → Sem (ForInStep (List (Str × Addr)))),
      (∀ x kd ys, f (x, kd) ys = if kd == .free then (do let a ← cellOf env x; pure (.yield ((x, a) :: ys))) else pure (.yield ys)) → CellsRel ρ acc ys → closA ae.cells names acc = some cs → Tri W n ρ H (forIn names ys f) (Same ρ H fun xs => CellsRel ρ cs xs) := by
    intro names
    induction names with
    | nil =>
      intro acc ys f hf hr hc
      rw [List.forIn_nil]
      cases hc
      exact .pur ⟨rfl, rfl, hr⟩
    | cons x r ih =>
      intro acc ys f hf hr hc
      obtain ⟨x, kd⟩ := x
      rw [List.forIn_cons, hf]
      by_cases hk : (kd == NameKind.free) = true
      · rw [if_pos hk]
        rw [closA_c, if_pos hk] at hc
        cases hl : ae.cells.lookup x with
        | none => rw [hl] at hc; cases hc
        | some i =>
          rw [hl] at hc
          obtain ⟨a, h1, h2⟩ := E.cells.lookup hl
          unfold cellOf
          rw [h1]
          refine Tri.bindS (fun b => b = .yield ((x, a) :: ys)) (Tri.bindS (fun b => b = a) (.pur ⟨rfl, rfl, rfl⟩) fun b e => by subst e; exact .pur ⟨rfl, rfl, rfl⟩) fun b e => ?_
          subst e
          exact ih ((x, i) :: acc) _ f hf ⟨rfl, h2, hr⟩ hc
      · rw [if_neg hk]
        rw [closA_c, if_neg hk] at hc
        refine Tri.bindS (fun b => b = .yield ys) (.pur ⟨rfl, rfl, rfl⟩) fun b e => ?_
        subst e
        exact ih _ _ f hf hr hc
  refine Tri.bindS (fun xs => CellsRel ρ cs xs) (main _ [] [] _ (fun x kd ys => ?_) trivial h) fun xs hx => .pur (k xs hx)
  by_cases hk : (kd == NameKind.free) = true
  · simp only [hk, if_true]
  · simp only [hk]

noncomputable def compScope (outer scope : Scope) : Scope := { scope with names := scope.names.map fun (x, k) => if (k == .free && outer.kind == .function && outer.names.lookup x == some .cell) then (x, .cell) else (x, k) }
noncomputable def compAE (ae : AE) (scope : Scope) (cs : List (Str × Nat)) (H : List AO) : AE := { scope := compScope ae.scope scope, loc := H.length, cells := cs, qual := ae.qual, code := ae.code }
noncomputable def noCells (scope : Scope) : Bool := scope.names.all fun x => x.2 != .cell
noncomputable def localsOk (outer scope : Scope) : Bool := scope.names.all fun x => x.2 != .local || (compScope outer scope).names.lookup x.1 == some .local


theorem Tri.comprehension {elt : Expr} {gens : List Comprehension} {scope : Scope} {pos pos' : Pos} {g : Comprehension} {gs : List Comprehension} {cs : List (Str × Nat)} {env : Env} {use : Option (Value → Sem Unit)} {Q : Rho → List AO → Value → Prop}
    (E : EnvIs ρ ae env) (hg : gens = g :: gs) (hs : ∀ env x, foldedSetIterable g.iter env x = pure x) (hc : closA ae.cells scope.names [] = some cs) (hk : scope.kind = .function) (hno : noCells scope = true) (hlo : localsOk ae.scope scope = true)
    (h : Ev W n ae H g.iter fun x H1 => Ite W n H1 x fun it H2 => CmpS W n (compAE ae scope cs (H2 ++ [.lst []])) (H2 ++ [.lst []] ++ [.ns []]) (.ListComp elt gens scope pos) 0 it (.ref H2.length) fun H5 =>
      (∃ m, H5[H2.length + 1]? = some (.ns m)) ∧ ∀ ρ' y, Le ρ ρ' → V.Rel ρ' (.ref H2.length) y → match use with
        | none => Q ρ' (H5.set (H2.length + 1) .dict) y
        | some u => Tri W n ρ' H5 (u y) fun ρ'' H6 _ => (∃ m, H6[H2.length + 1]? = some (.ns m)) ∧ Q ρ'' (H6.set (H2.length + 1) .dict) .none) :
    Tri W n ρ H (PySem.comprehension (.ListComp elt gens scope pos) scope env pos' (newList []) false (eval g.iter env) use) Q := by
  refine Tri.bind (h ρ env E) fun ρ1 H1 x l1 ⟨v, hv, k1⟩ => ?_
  refine .stand ?_
  have ecl : clausesOf (.ListComp elt gens scope pos) = g :: gs := hg
  rw [ecl]
  dsimp only
  rw [hs]
  refine Tri.bindS (fun y => y = x) (.pur ⟨rfl, rfl, rfl⟩) fun _ e => ?_
  subst e
  refine Tri.bind (.holding (k1 ρ1 _ hv)) fun ρ2 H2 it l2 ⟨itv, hit, k2⟩ => ?_
  have l12 := l1.trans l2
  have cont : Tri W n ρ2 H2 (newList [] >>= fun acc => do
      let cenv ← PySem.newFunctionEnv scope env.globals (← PySem.closureFor scope env) [] env.qual none .none (some env)
      let own (n : Str) (k : NameKind) := k == .free && env.scope.kind == .function && env.kindOf n == some .cell
      let cenv := { cenv with scope := { scope with names := scope.names.map fun (n, k) => if own n k then (n, .cell) else (n, k) } }
      let vars := scope.names.filter fun (n, k) => (k == .local || k == .cell) && n != (".0" : Str)
      let cellOf? (n : Str) : List Value := ((cenv.cells.lookup n).map Value.ref).toList
      let cellsOf (vs : List (Str × NameKind)) : List Value := vs.flatMap fun (n, k) => if k == .cell then cellOf? n else []
      PySem.holding [.ref cenv.locals] do
        match ← (PySem.holding (acc :: cellsOf vars) (PySem.run (.compStart (.ListComp elt gens scope pos) 0 it acc cenv))).attempt, use with
        | .ok _, none => PySem.holding [acc] (comprehension.letGo cenv cellsOf vars.reverse); pure acc
        | .ok _, some u =>
          PySem.rule "comprehension.stores-exchanged"
          PySem.holding (cellsOf vars) (u acc)
          comprehension.letGo cenv cellsOf (vars.reverse.drop 1 ++ vars.reverse.take 1)
          pure .none
        | .error x, _ => PySem.holding [x] (comprehension.letGo cenv cellsOf vars.reverse); passOn "comprehension.variables-let-go" x cenv) Q := by
    refine Tri.bind (Tri.newSeq (o := .lst []) (vs := []) (xs := []) (Q := fun v H3 => v = .ref H2.length ∧ H3 = H2 ++ [.lst []]) trivial (Nat.zero_le _) (fun _ _ _ q => q) ⟨rfl, rfl⟩) fun ρ3 H3 acc l3 ⟨av, ha, e1, e2⟩ => ?_
    subst e1 e2
    have l13 := l12.trans l3
    refine Tri.bindS (fun xs => CellsRel ρ3 cs xs) (Tri.closureFor (E.mono l13) hc fun xs hx => ⟨rfl, rfl, hx⟩) fun xs hxs => ?_
    refine .withLen fun hl3 => ?_
    refine Tri.bind (Q := fun ρ' H' (cenv : Env) => ∃ a, ρ' = ρ3 ++ [a] ∧ H' = H2 ++ [.lst []] ++ [.ns []] ∧ cenv = { scope, locals := a, globals := mainGlobals, cells := xs, qual := env.qual, func := none, code := env.code, frame := env.frame, builtins := builtinsNs }) ?_ fun ρ4 H4 cenv l4 ⟨a, e1, e2, e3⟩ => ?_
    · unfold PySem.newFunctionEnv
      simp only [Option.isSome_some, if_true]
      refine Tri.bind (.alloc (.ns []) (Q := fun ρ' H' a => ρ' = ρ3 ++ [a] ∧ H' = H2 ++ [.lst []] ++ [.ns []]) rfl (fun a => ⟨#[], 0, rfl, fun _ he => by simp at he, Nat.le_refl _, fun x => trivial⟩) fun a => ⟨rfl, rfl⟩) fun ρ4 H4 a l4 ⟨e1, e2⟩ => ?_
      subst e1 e2
      refine Tri.bindS (fun ys => ys = xs) ?_ fun ys e => ?_
      · have : forIn scope.names xs (fun (p : Str × NameKind) (r : List (Str × Addr)) => (do
            if p.2 == NameKind.cell then do
              let __do_lift ← PySem.alloc { cls := .type "cell", data := .cell none }
              pure (ForInStep.yield ((p.1, __do_lift) :: r))
            else pure (ForInStep.yield r) : Sem (ForInStep (List (Str × Addr))))) = pure xs := forIn_yield_id xs (fun x hx c => by
          have h1 := List.all_eq_true.mp hno x hx
          have : (x.2 == NameKind.cell) = false := by simpa using h1
          simp only [this, Bool.false_eq_true, if_false])
        refine Eq.mpr (congrArg (fun t => Tri W n _ _ t _) ?_) (Tri.pur (a := xs) ⟨rfl, rfl, rfl⟩)
        exact this
      · subst e
        rw [List.forIn_nil]
        refine Tri.bindS (fun _ => True) (.pur ⟨rfl, rfl, trivial⟩) fun _ _ => .pur ⟨a, rfl, rfl, ?_⟩
        rw [E.gl, E.bl]
    subst e1 e2 e3
    have l14 := l13.trans l4
    have hloc : (ρ3 ++ [a])[H2.length + 1]? = some a := by
      have : ρ3.length = H2.length + 1 := by simpa using hl3
      rw [← this]; simp
    have Ec : EnvIs (ρ3 ++ [a]) (compAE ae scope cs (H2 ++ [.lst []])) { scope := { scope with names := scope.names.map fun (x, k) => if (k == .free && env.scope.kind == .function && env.kindOf x == some .cell) then (x, .cell) else (x, k) }, locals := a, globals := mainGlobals, cells := xs, qual := env.qual, func := none, code := env.code, frame := env.frame, builtins := builtinsNs } := by
      refine ⟨?_, ?_, rfl, rfl, hxs.mono l4, E.qual, E.code⟩
      · show _ = compScope ae.scope scope
        unfold compScope Env.kindOf
        rw [E.scope]
      · show (ρ3 ++ [a])[(H2 ++ [AO.lst []]).length]? = some a
        rw [List.length_append]
        exact hloc
    refine .holding ?_
    have Es : ∀ x ∈ (scope.names.filter fun x => (x.2 == .local || x.2 == .cell) && x.1 != (".0" : Str)), x.2 = .local → (compScope ae.scope scope).names.lookup x.1 = some .local := fun x hx hxl => by
      have h1 := List.all_eq_true.mp hlo x (List.mem_filter.mp hx).1
      rw [hxl] at h1
      simpa using h1
    have go : ∀ (cenv : Env) (cof : List (Str × NameKind) → List Value) (vs : List (Str × NameKind)) (ρ' : Rho) (H' : List AO) (m : List (Str × V)) (P : Rho → List AO → Unit → Prop), cenv.locals = a → cenv.scope = compScope ae.scope scope → ρ'[H2.length + 1]? = some a → H'[H2.length + 1]? = some (.ns m) →
        (∀ x ∈ vs, x ∈ (scope.names.filter fun x => (x.2 == .local || x.2 == .cell) && x.1 != (".0" : Str))) → P ρ' (H'.set (H2.length + 1) .dict) () → Tri W n ρ' H' (comprehension.letGo cenv cof vs) P := by
      intro cenv cof vs ρ' H' m P hcl hcs hρ hH hvs hP A s r hs' g'
      obtain ⟨o, ho, ⟨es, ep, hd, hsk, hz, hm0⟩, _⟩ := hs'.ent _ _ _ hρ hH
      refine wpAny_comp_letGo (cenv := cenv) (by rw [hcs]; exact hk) vs s (nsFind es) (fun x hx hxl => ?_) (by rw [hcl]; exact ⟨o, es, ep, ho, hd, hsk, fun _ => rfl⟩) fun h' m' hn hsb => ?_
      · show cenv.scope.names.lookup x.1 = some .local
        rw [hcs]; exact Es x (hvs x hx) hxl
      · rw [hcl] at hn hsb
        obtain ⟨o', es', ep', ho', hd', hsk', _⟩ := hn
        exact ⟨ρ', _, Post.set (o := .dict) (s' := { s with heap := h' }) hs' hρ hsb ho' ⟨es', ep', hd', hsk'⟩ trivial (keepCode_of_set hsb ho (AO.NoCode.not (o := .ns m) (ρ := ρ') trivial ⟨es, ep, hd, hsk, hz, hm0⟩)) rfl rfl, hP⟩
    refine Tri.bind (Q := fun ρ' H' r => ∃ f, r = .ok f ∧ Le (ρ3 ++ [a]) ρ' ∧ (∃ m, H'[H2.length + 1]? = some (.ns m)) ∧ ∀ ρ'' y, Le ρ ρ'' → V.Rel ρ'' (.ref H2.length) y → match use with
        | none => Q ρ'' (H'.set (H2.length + 1) .dict) y
        | some u => Tri W n ρ'' H' (u y) fun ρ3 H6 _ => (∃ m, H6[H2.length + 1]? = some (.ns m)) ∧ Q ρ3 (H6.set (H2.length + 1) .dict) .none)
      (.attempt (.holding (.run ?_))) fun ρ5 H5 r l5 ⟨f, e, _, ⟨m, hm⟩, k5⟩ => ?_
    · exact (k2 (ρ3 ++ [a]) _ it acc Ec (hit.mono (l3.trans l4)) (V.Rel.mono l4 ha)).mono fun ρ' H' f l ⟨_, q1, q2⟩ => ⟨f, rfl, l, q1, q2⟩
    subst e
    · have k5' := k5 ρ5 acc (l14.trans l5) (V.Rel.mono (l4.trans l5) ha)
      induction use with
      | none =>
        refine Tri.bind (.holding (go _ _ _ ρ5 H5 m (fun ρ' H' _ => ρ' = ρ5 ∧ H' = H5.set (H2.length + 1) .dict) rfl Ec.scope (l5.get hloc) hm (fun x hx => List.mem_reverse.mp hx) ⟨rfl, rfl⟩)) fun _ _ _ _ ⟨e1, e2⟩ => ?_
        subst e1 e2
        exact .pur k5'
      | some u =>
        refine .ruleB (Tri.bind (.holding k5') fun ρ6 H6 _ l6 ⟨⟨m', hm'⟩, k6⟩ => ?_)
        refine Tri.bind (go _ _ _ ρ6 H6 m' (fun ρ' H' _ => ρ' = ρ6 ∧ H' = H6.set (H2.length + 1) .dict) rfl Ec.scope (l6.get (l5.get hloc)) hm' (fun x hx => ?_) ⟨rfl, rfl⟩) fun _ _ _ _ ⟨e1, e2⟩ => ?_
        · rcases List.mem_append.mp hx with hx | hx
          · exact List.mem_reverse.mp (List.mem_of_mem_drop hx)
          · exact List.mem_reverse.mp (List.mem_of_mem_take hx)
        subst e1 e2
        exact .pur k6
  induction use with
  | none => exact cont
  | some u => exact .stand cont
end
end Mine

-- FILE B1
open PySem PySem.W PyProof.Rows
set_option Elab.async false
set_option autoImplicit false
namespace Mine

/-! ## a small ledger within a large one -/
noncomputable def V.ren (m : List Nat) : V → V
  | .ref i => match m[i]? with | Option.some j => .ref j | Option.none => .bad
  | v => v
theorem V.ren_ref {m : List Nat} {i j : Nat} (h : m[i]? = some j) : V.ren m (.ref i) = .ref j := by
  unfold V.ren
  dsimp only
  rw [h]
theorem V.ren_int {m : List Nat} {i : Int} : V.ren m (.int i) = .int i := rfl
noncomputable def renCells (m : List Nat) : List (Str × Nat) → Option (List (Str × Nat))
  | [] => some []
  | (x, i) :: r => match m[i]?, renCells m r with | some j, some s => some ((x, j) :: s) | _, _ => none
theorem renCells_c {m : List Nat} {x : Str} {i j : Nat} {r s : List (Str × Nat)} (h : m[i]? = some j) (h2 : renCells m r = some s) : renCells m ((x, i) :: r) = some ((x, j) :: s) := by
  have e0 : renCells m ((x, i) :: r) = match m[i]?, renCells m r with | some j, some s => some ((x, j) :: s) | _, _ => none := rfl
  rw [e0, h, h2]
noncomputable def renDict (m : List Nat) : Option Nat → Option (Option Nat)
  | none => some none
  | some i => match m[i]? with | some j => some (some j) | none => none
theorem renDict_s {m : List Nat} {i j : Nat} (h : m[i]? = some j) : renDict m (some i) = some (some j) := by
  have e0 : renDict m (some i) = match m[i]? with | some j => some (some j) | none => none := rfl
  rw [e0, h]
noncomputable def AO.ren (m : List Nat) : AO → AO
  | .lst vs => .lst (vs.map (V.ren m))
  | .tup vs => .tup (vs.map (V.ren m))
  | .ns es => .ns (es.map fun e => (e.1, e.2.ren m))
  | .cell v => .cell (v.map (V.ren m))
  | .inst C d => match m[d]? with | some j => .inst C j | none => .bad
  | .fn f => match renCells m f.cells, renDict m f.dict with | some cs, some d => .fn { f with cells := cs, dict := d } | _, _ => .bad
  | .flds c vs => .flds c (vs.map (V.ren m))
  | .iter c vs => .iter c (vs.map (V.ren m))
  | .enum own it i old => match renDict m own, m[it]? with | some t, some j => .enum t j i (old.ren m) | _, _ => .bad
  | o => o
theorem AO.ren_lst {m : List Nat} {vs : List V} : AO.ren m (.lst vs) = .lst (vs.map (V.ren m)) := rfl
theorem AO.ren_tup {m : List Nat} {vs : List V} : AO.ren m (.tup vs) = .tup (vs.map (V.ren m)) := rfl
theorem AO.ren_ns {m : List Nat} {es : List (Str × V)} : AO.ren m (.ns es) = .ns (es.map fun e => (e.1, e.2.ren m)) := rfl
theorem AO.ren_cell {m : List Nat} {v : Option V} : AO.ren m (.cell v) = .cell (v.map (V.ren m)) := rfl
theorem AO.ren_flds {m : List Nat} {c : String} {vs : List V} : AO.ren m (.flds c vs) = .flds c (vs.map (V.ren m)) := rfl
theorem AO.ren_iter {m : List Nat} {c : String} {vs : List V} : AO.ren m (.iter c vs) = .iter c (vs.map (V.ren m)) := rfl
theorem AO.ren_inst {m : List Nat} {C : Addr} {d j : Nat} (h : m[d]? = some j) : AO.ren m (.inst C d) = .inst C j := by
  unfold AO.ren
  dsimp only
  rw [h]
theorem AO.ren_fn {m : List Nat} {f : AFn} {cs : List (Str × Nat)} {d : Option Nat} (h : renCells m f.cells = some cs) (h2 : renDict m f.dict = some d) : AO.ren m (.fn f) = .fn { f with cells := cs, dict := d } := by
  unfold AO.ren
  dsimp only
  rw [h, h2]
theorem AO.ren_enum {m : List Nat} {own t : Option Nat} {it j : Nat} {i : Int} {old : V} (h : renDict m own = some t) (h2 : m[it]? = some j) : AO.ren m (.enum own it i old) = .enum t j i (old.ren m) := by
  unfold AO.ren
  dsimp only
  rw [h, h2]
noncomputable def pk (ρ : Rho) (m : List Nat) : Rho := m.map fun j => ρ.getD j 0
noncomputable def Inr (ρ : Rho) (m : List Nat) : Prop := ∀ j ∈ m, j < ρ.length
theorem pk_get {ρ : Rho} {m : List Nat} (hm : Inr ρ m) {i : Nat} {a : Addr} : (pk ρ m)[i]? = some a ↔ ∃ j, m[i]? = some j ∧ ρ[j]? = some a := by
  unfold pk
  rw [List.getElem?_map]
  cases h : m[i]? with
  | none => simp
  | some j =>
    have hj := hm j (List.mem_of_getElem? h)
    simp [hj]
theorem V.ren_rel {ρ : Rho} {m : List Nat} (hm : Inr ρ m) {v : V} {x : Value} : (v.ren m).Rel ρ x ↔ v.Rel (pk ρ m) x := by
  induction v with
  | ref i =>
    show _ ↔ ∃ a, (pk ρ m)[i]? = some a ∧ x = .ref a
    unfold V.ren
    simp only [pk_get hm]
    cases h : m[i]? with
    | none => exact ⟨fun e => e.elim, by rintro ⟨_, ⟨_, e, _⟩, _⟩; cases e⟩
    | some j => exact ⟨by rintro ⟨a, e, q⟩; exact ⟨a, ⟨j, rfl, e⟩, q⟩, by rintro ⟨a, ⟨_, e0, e⟩, q⟩; cases e0; exact ⟨a, e, q⟩⟩
  | _ => exact Iff.rfl
theorem VL.ren {ρ : Rho} {m : List Nat} (hm : Inr ρ m) : ∀ {vs : List V} {xs : List Value}, VL ρ (vs.map (V.ren m)) xs ↔ VL (pk ρ m) vs xs
  | [], [] => Iff.rfl
  | v :: vs, x :: xs => and_congr (V.ren_rel hm) (VL.ren hm)
  | [], _ :: _ => Iff.rfl
  | _ :: _, [] => Iff.rfl
theorem OptRel.ren {ρ : Rho} {m : List Nat} (hm : Inr ρ m) {v : Option V} {x : Option Value} : OptRel ρ (v.map (V.ren m)) x ↔ OptRel (pk ρ m) v x := by
  induction v <;> induction x <;> first | exact Iff.rfl | exact V.ren_rel hm
theorem CellsRel.ren {ρ : Rho} {m : List Nat} (hm : Inr ρ m) {cs : List (Str × Nat)} {xs : List (Str × Addr)} : (∃ ds, renCells m cs = some ds ∧ CellsRel ρ ds xs) ↔ CellsRel (pk ρ m) cs xs := by
  induction cs generalizing xs with
  | nil => exact ⟨by rintro ⟨_, e, h⟩; cases e; induction xs using List.casesOn <;> exact h, fun h => ⟨[], rfl, by induction xs using List.casesOn <;> exact h⟩⟩
  | cons p cs ih =>
    obtain ⟨x, i⟩ := p
    have e0 : renCells m ((x, i) :: cs) = match m[i]?, renCells m cs with | some j, some s => some ((x, j) :: s) | _, _ => none := rfl
    rw [e0]
    induction xs using List.casesOn with
    | nil =>
      refine ⟨fun ⟨ds, e, h⟩ => ?_, fun h => h.elim⟩
      induction ds using List.casesOn with
      | nil => cases h1 : m[i]? <;> rw [h1] at e <;> cases h2 : renCells m cs <;> rw [h2] at e <;> cases e
      | cons => exact h
    | cons q xs =>
      obtain ⟨y, a⟩ := q
      refine ⟨fun ⟨ds, e, h⟩ => ?_, fun ⟨h0, h1, h2⟩ => ?_⟩
      · cases h1 : m[i]? with
        | none => rw [h1] at e; cases e
        | some j =>
          cases h2 : renCells m cs with
          | none => rw [h1, h2] at e; cases e
          | some s =>
            rw [h1, h2] at e
            cases e
            exact ⟨h.1, (pk_get hm).mpr ⟨j, h1, h.2.1⟩, ih.mp ⟨s, h2, h.2.2⟩⟩
      · obtain ⟨j, h1, e1⟩ := (pk_get hm).mp h1
        obtain ⟨s, h2, e2⟩ := ih.mpr h2
        rw [h1, h2]
        exact ⟨_, rfl, h0, e1, e2⟩
theorem DictRel.ren {ρ : Rho} {m : List Nat} (hm : Inr ρ m) {d : Option Nat} {x : Option Addr} : (∃ e, renDict m d = some e ∧ DictRel ρ e x) ↔ DictRel (pk ρ m) d x := by
  induction d with
  | none => exact ⟨by rintro ⟨_, e, h⟩; cases e; induction x <;> exact h, fun h => ⟨none, rfl, by induction x <;> exact h⟩⟩
  | some i =>
    have e0 : renDict m (some i) = match m[i]? with | some j => some (some j) | none => none := rfl
    rw [e0]
    refine ⟨fun ⟨e, h1, h⟩ => ?_, fun h => ?_⟩
    · cases h2 : m[i]? with
      | none => rw [h2] at h1; cases h1
      | some j =>
        rw [h2] at h1
        cases h1
        induction x with
        | none => exact h
        | some b => exact (pk_get hm).mpr ⟨_, h2, h⟩
    · induction x with
      | none => exact h.elim
      | some b =>
        obtain ⟨j, h2, h⟩ := (pk_get hm).mp h
        rw [h2]
        exact ⟨_, rfl, h⟩
theorem OwnRel.ren {ρ : Rho} {m : List Nat} (hm : Inr ρ m) {d : Option Nat} {x : Value} : (∃ e, renDict m d = some e ∧ OwnRel ρ e x) ↔ OwnRel (pk ρ m) d x := by
  induction d with
  | none => exact ⟨by rintro ⟨_, e, h⟩; cases e; exact h, fun h => ⟨none, rfl, h⟩⟩
  | some i =>
    have e0 : renDict m (some i) = match m[i]? with | some j => some (some j) | none => none := rfl
    rw [e0]
    refine ⟨fun ⟨e, h1, h⟩ => ?_, fun ⟨a, h, q⟩ => ?_⟩
    · cases h2 : m[i]? with
      | none => rw [h2] at h1; cases h1
      | some j =>
        rw [h2] at h1
        cases h1
        exact ⟨h.choose, (pk_get hm).mpr ⟨_, h2, h.choose_spec.1⟩, h.choose_spec.2⟩
    · obtain ⟨j, h2, h⟩ := (pk_get hm).mp h
      rw [h2]
      exact ⟨_, rfl, a, h, q⟩
theorem CellsRel.ren_some {α : Type} {m : List Nat} {cs : List (Str × Nat)} {Z : α → List (Str × Nat) → Prop} (h : ∃ a, ∃ ds, renCells m cs = some ds ∧ Z a ds) : ∃ ds, renCells m cs = some ds := h.elim fun _ h => h.imp fun _ h => h.1
theorem FnRel.swap {ρ ρ' : Rho} {f : AFn} {cs : List (Str × Nat)} {d : Option Nat} {x : Obj} (h : FnRel ρ f x) (hd : DictRel ρ' d x.dict) (hc : ∀ c, CellsRel ρ f.cells c → CellsRel ρ' cs c) : FnRel ρ' { f with cells := cs, dict := d } x :=
  ⟨h.cls, hd, h.data.imp fun _ c => ⟨c.1, c.2.1, c.2.2.1, c.2.2.2.1, c.2.2.2.2.1, c.2.2.2.2.2.1, c.2.2.2.2.2.2.1, c.2.2.2.2.2.2.2.1, c.2.2.2.2.2.2.2.2.1, c.2.2.2.2.2.2.2.2.2.1, hc _ c.2.2.2.2.2.2.2.2.2.2⟩⟩
theorem ren_fnI {ρ : Rho} {m : List Nat} {f : AFn} {x : Obj} : ((AO.fn f).ren m).Is ρ x ↔ ∃ cs d, renCells m f.cells = some cs ∧ renDict m f.dict = some d ∧ FnRel ρ { f with cells := cs, dict := d } x := by
  unfold AO.ren
  dsimp only
  cases renCells m f.cells with
  | none => exact ⟨fun h => h.elim, by rintro ⟨_, _, e, _⟩; cases e⟩
  | some cs => cases renDict m f.dict with
    | none => exact ⟨fun h => h.elim, by rintro ⟨_, _, _, e, _⟩; cases e⟩
    | some d => exact ⟨fun h => ⟨_, _, rfl, rfl, h⟩, by rintro ⟨_, _, e1, e2, h⟩; cases e1; cases e2; exact h⟩
theorem ren_enumI {ρ : Rho} {m : List Nat} {own : Option Nat} {it : Nat} {i : Int} {old : V} {x : Obj} : ((AO.enum own it i old).ren m).Is ρ x ↔ ∃ d j, renDict m own = some d ∧ m[it]? = some j ∧ (AO.enum d j i (old.ren m)).Is ρ x := by
  unfold AO.ren
  dsimp only
  cases renDict m own with
  | none => exact ⟨fun h => h.elim, by rintro ⟨_, _, e, _⟩; cases e⟩
  | some cs => cases m[it]? with
    | none => exact ⟨fun h => h.elim, by rintro ⟨_, _, _, e, _⟩; cases e⟩
    | some d => exact ⟨fun h => ⟨_, _, rfl, rfl, h⟩, by rintro ⟨_, _, e1, e2, h⟩; cases e1; cases e2; exact h⟩
theorem lookup_ren {m : List Nat} {y : Str} : ∀ {es : List (Str × V)}, (es.map fun e => (e.1, e.2.ren m)).lookup y = (es.lookup y).map (V.ren m)
  | [] => rfl
  | (x, v) :: es => by
    by_cases h : (y == x) = true
    · simp [List.lookup, h]
    · simp only [List.map_cons, List.lookup, h]
      exact lookup_ren
theorem SeqRel.ren {ρ : Rho} {m : List Nat} (hm : Inr ρ m) {c : String} {vs : List V} {x : Obj} : SeqRel ρ c (vs.map (V.ren m)) x ↔ SeqRel (pk ρ m) c vs x := by
  unfold SeqRel
  simp only [VL.ren hm]
theorem AO.ren_is {ρ : Rho} {m : List Nat} (hm : Inr ρ m) {o : AO} {x : Obj} : (o.ren m).Is ρ x ↔ o.Is (pk ρ m) x := by
  induction o with
  | lst vs => exact SeqRel.ren hm
  | tup vs => exact SeqRel.ren hm
  | ns es =>
    unfold AO.ren AO.Is
    simp only [List.length_map, lookup_ren, OptRel.ren hm]
  | cell v =>
    unfold AO.ren AO.Is
    simp only [OptRel.ren hm]
  | inst C d =>
    unfold AO.ren
    dsimp only
    cases h : m[d]? with
    | none => exact ⟨fun e => e.elim, by rintro ⟨_, _, e, _⟩; obtain ⟨j, e, _⟩ := (pk_get hm).mp e; rw [h] at e; cases e⟩
    | some j => exact ⟨by rintro ⟨a, sl, e, q⟩; exact ⟨a, sl, (pk_get hm).mpr ⟨j, h, e⟩, q⟩, by rintro ⟨a, sl, e, q⟩; obtain ⟨i, e0, e⟩ := (pk_get hm).mp e; rw [h] at e0; cases e0; exact ⟨a, sl, e, q⟩⟩
  | fn f =>
    refine ren_fnI.trans ⟨fun h => ?_, fun h => ?_⟩
    · obtain ⟨cs, d, h1, h2, r⟩ := h
      exact r.swap ((DictRel.ren hm).mp ⟨_, h2, r.dict⟩) fun c k => (CellsRel.ren hm).mp ⟨_, h1, k⟩
    · obtain ⟨d, h2, e2⟩ := (DictRel.ren hm).mpr h.dict
      obtain ⟨cs, h1⟩ := CellsRel.ren_some (h.data.imp fun _ c => (CellsRel.ren hm).mpr c.2.2.2.2.2.2.2.2.2.2)
      exact ⟨cs, d, h1, h2, h.swap e2 fun c k => by
        obtain ⟨cs', h1', k'⟩ := (CellsRel.ren hm).mpr k
        rw [h1] at h1'
        cases h1'
        exact k'⟩
  | flds c vs =>
    unfold AO.ren AO.Is
    simp only [VL.ren hm]
  | iter c vs =>
    unfold AO.ren AO.Is
    simp only [VL.ren hm]
  | enum own it i old =>
    refine ren_enumI.trans ⟨?_, ?_⟩
    · rintro ⟨t, j, h1, h2, xo, b, y, e1, e2, e3, e4⟩
      exact ⟨xo, b, y, (OwnRel.ren hm).mp ⟨_, h1, e1⟩, (pk_get hm).mpr ⟨_, h2, e2⟩, (V.ren_rel hm).mp e3, e4⟩
    · rintro ⟨xo, b, y, e1, e2, e3, e4⟩
      obtain ⟨j, h2, e2⟩ := (pk_get hm).mp e2
      obtain ⟨t, h1, e1⟩ := (OwnRel.ren hm).mpr e1
      exact ⟨t, j, h1, h2, xo, b, y, e1, e2, (V.ren_rel hm).mpr e3, e4⟩
  | dict => exact Iff.rfl
  | junk => exact Iff.rfl
  | bad => exact Iff.rfl
theorem AO.ren_hp {m : List Nat} {ρ : Rho} {o : AO} {h : Heap} {x : Obj} (i : (o.ren m).Is ρ x) (e : (o.ren m).Hp h x) : o.Hp h x := by
  induction o with
  | fn f =>
    unfold AO.ren at i e
    dsimp only at i e
    cases h1 : renCells m f.cells with
    | none => rw [h1] at i; exact i.elim
    | some cs => cases h2 : renDict m f.dict with
      | none => rw [h1, h2] at i; exact i.elim
      | some d => rw [h1, h2] at e; exact e
  | _ => trivial
theorem AO.hp_ren {m : List Nat} {o : AO} {h : Heap} {x : Obj} (e : o.Hp h x) : (o.ren m).Hp h x := by
  induction o with
  | fn f =>
    unfold AO.ren
    dsimp only
    cases renCells m f.cells <;> cases renDict m f.dict <;> first | exact e | trivial
  | inst C d =>
    unfold AO.ren
    dsimp only
    cases m[d]? <;> trivial
  | enum own it i old =>
    unfold AO.ren
    dsimp only
    cases renDict m own <;> cases m[it]? <;> trivial
  | _ => trivial

structure View (m : List Nat) (L H : List AO) : Prop where
  nd : m.Nodup
  len : m.length = L.length
  inr : ∀ j ∈ m, j < H.length
  ent : ∀ (i j : Nat) (o : AO), m[i]? = some j → L[i]? = some o → H[j]? = some (o.ren m)

section
variable {W : Wd} {n : Nat} {ae : AE} {H L : List AO} {α β : Type} {ρ : Rho} {m : List Nat} {B : Bs} {h : Heap}
theorem pk_mem (hm : Inr ρ m) {a : Addr} (ha : a ∈ pk ρ m) : ∃ j, j ∈ m ∧ ρ[j]? = some a := by
  obtain ⟨i, e⟩ := List.getElem?_of_mem ha
  obtain ⟨j, h1, h2⟩ := (pk_get hm).mp e
  exact ⟨j, List.mem_of_getElem? h1, h2⟩
theorem pk_nodup (hm : Inr ρ m) (hn : ρ.Nodup) (h : m.Nodup) : (pk ρ m).Nodup := by
  refine List.pairwise_map.mpr (List.Pairwise.imp_of_mem ?_ h)
  intro i j hi hj hne e
  have hi' := hm i hi
  have hj' := hm j hj
  simp only [List.getD_eq_getElem?_getD, List.getElem?_eq_getElem hi', List.getElem?_eq_getElem hj', Option.getD_some] at e
  exact hne (nodup_inj hn (List.getElem?_eq_getElem hi') (by rw [e]; exact List.getElem?_eq_getElem hj'))
theorem View.inrho (v : View m L H) (hs : HS B ρ H h) : Inr ρ m := fun j hj => hs.len ▸ v.inr j hj
theorem HS.view (hs : HS B ρ H h) (v : View m L H) : HS B (pk ρ m) L h where
  keep := hs.keep
  len := by simp [pk, v.len]
  nodup := pk_nodup (v.inrho hs) hs.nodup v.nd
  fresh := fun a ha => by obtain ⟨j, _, e⟩ := pk_mem (v.inrho hs) ha; exact hs.fresh a (List.mem_of_getElem? e)
  ent := fun i a o ha ho => by
    obtain ⟨j, h1, h2⟩ := (pk_get (v.inrho hs)).mp ha
    obtain ⟨x, e, k, p⟩ := hs.ent j a _ h2 (v.ent i j o h1 ho)
    exact ⟨x, e, (AO.ren_is (v.inrho hs)).mp k, AO.ren_hp k p⟩
  tabs := fun P hP => let ⟨h1, h2⟩ := hs.tabs P hP; ⟨fun q => let ⟨_, _, e⟩ := pk_mem (v.inrho hs) q; h1 (List.mem_of_getElem? e), h2⟩
theorem pk_range_append {σ : Rho} {m2 : List Nat} : pk (ρ ++ σ) (List.range ρ.length ++ m2) = ρ ++ pk (ρ ++ σ) m2 := by
  unfold pk
  rw [List.map_append]
  congr 1
  refine List.ext_getElem (by simp) fun i h1 h2 => ?_
  simp [List.getElem?_append_left h2, h2]
theorem Post.view {s s' : Shared} {ρ' : Rho} {H' : List AO} {m2 : List Nat} (p : Post B ρ s s' ρ' H') (hl : ρ.length = H.length) (v : View (List.range H.length ++ m2) L H') : Post B ρ s s' (pk ρ' (List.range H.length ++ m2)) L where
  hs := p.hs.view v
  le := by
    obtain ⟨σ, e⟩ := p.le
    subst e
    rw [← hl, pk_range_append]
    exact .snoc _ _
  new := fun a ha hn => by
    obtain ⟨j, _, e⟩ := pk_mem (v.inrho p.hs) ha
    exact p.new a (List.mem_of_getElem? e) hn
  keep := p.keep
  kc := p.kc
  os := p.os
  gens := p.gens

/-- the ledger left behind is cut down to what is wanted -/
noncomputable def Tidy (N : Nat) (Q : V → List AO → Prop) (v : V) (H' : List AO) : Prop := ∃ m2 L v', View (List.range N ++ m2) L H' ∧ v = V.ren (List.range N ++ m2) v' ∧ Q v' L
theorem Tri.tidy {c : Sem Value} {Q : V → List AO → Prop} (h : Tri W n ρ H c (Val (Tidy H.length Q))) : Tri W n ρ H c (Val Q) := fun A s r hs g =>
  wpAny_mono (h A s r hs g) (fun _ _ h => by
    obtain ⟨ρ', H', p, v, hv, m2, L, v', hw, rfl, q⟩ := h
    exact ⟨_, L, p.view hs.len hw, v', (V.ren_rel (hw.inrho p.hs)).mp hv, q⟩) fun _ _ e => e
theorem Cl.tidy {f : V} {as kv : List V} {kn : List Str} {Q : V → List AO → Prop} (h : Cl W n H f as kn kv (Tidy H.length Q)) : Cl W n H f as kn kv Q := fun ρ x xs ys hx hxs hys => .tidy (h ρ x xs ys hx hxs hys)

/-- a small ledger's end laid back into the large one -/
noncomputable def mrg (e : List Nat) : List Nat → List AO → List AO → List AO
  | j :: m, o :: L, H => mrg e m L (H.set j (o.ren e))
  | _, L, H => H ++ L.map (AO.ren e)
noncomputable def ext (m : List Nat) (N M K : Nat) : List Nat := m ++ (List.range (K - N)).map (M + ·)
theorem mrg_nil {e : List Nat} {L H : List AO} : mrg e [] L H = H ++ L.map (AO.ren e) := by induction L using List.casesOn <;> rfl
theorem mrg_cons {e : List Nat} {j : Nat} {m : List Nat} {o : AO} {L H : List AO} : mrg e (j :: m) (o :: L) H = mrg e m L (H.set j (o.ren e)) := rfl
theorem mrg_len {e : List Nat} : ∀ {m : List Nat} {L H : List AO}, m.length ≤ L.length → (mrg e m L H).length = H.length + (L.length - m.length)
  | [], L, H, _ => by simp [mrg_nil]
  | j :: m, o :: L, H, h => by rw [mrg_cons, mrg_len (by simpa using h)]; simp
  | _ :: _, [], _, h => by simp at h
theorem mrg_out {e : List Nat} {i : Nat} : ∀ {m : List Nat} {L H : List AO}, m.length ≤ L.length → i < H.length → i ∉ m → (mrg e m L H)[i]? = H[i]?
  | [], L, H, _, hi, _ => by rw [mrg_nil]; exact List.getElem?_append_left hi
  | j :: m, o :: L, H, h, hi, hn => by
    rw [mrg_cons, mrg_out (by simpa using h) (by simpa using hi) (fun q => hn (List.mem_cons_of_mem _ q)), List.getElem?_set_ne]
    intro q; subst q; exact hn (List.mem_cons_self ..)
  | _ :: _, [], _, h, _, _ => by simp at h
theorem mrg_in {e : List Nat} {i q : Nat} {o : AO} : ∀ {m : List Nat} {L H : List AO}, m.length ≤ L.length → m.Nodup → i < H.length → m[q]? = some i → L[q]? = some o → (mrg e m L H)[i]? = some (o.ren e)
  | [], L, H, _, _, _, hq, _ => by simp at hq
  | j :: m, o' :: L, H, h, nd, hi, hq, hL => by
    induction q using Nat.casesAuxOn with
    | zero =>
      simp at hq hL; subst hq hL
      rw [mrg_cons, mrg_out (by simpa using h) (by simpa using hi) (List.nodup_cons.mp nd).1, List.getElem?_set_self hi]
    | succ q => rw [mrg_cons]; exact mrg_in (by simpa using h) (List.nodup_cons.mp nd).2 (by simpa using hi) (by simpa using hq) (by simpa using hL)
  | _ :: _, [], _, h, _, _, _, _ => by simp at h
theorem mrg_new {e : List Nat} {t : Nat} {o : AO} : ∀ {m : List Nat} {L H : List AO}, m.length ≤ L.length → L[m.length + t]? = some o → (mrg e m L H)[H.length + t]? = some (o.ren e)
  | [], L, H, _, hL => by
    have e0 : mrg e [] L H = H ++ L.map (AO.ren e) := by induction L using List.casesOn <;> rfl
    rw [e0, List.getElem?_append_right (by lia)]
    simp at hL ⊢
    exact ⟨o, hL, rfl⟩
  | j :: m, o' :: L, H, h, hL => by
    rw [mrg_cons]
    have := mrg_new (e := e) (t := t) (o := o) (m := m) (L := L) (H := H.set j (o'.ren e)) (by simpa using h) (by
      rw [List.length_cons, Nat.add_right_comm, List.getElem?_cons_succ] at hL; exact hL)
    rw [List.length_set] at this
    exact this
  | _ :: _, [], _, h, _ => by simp at h

theorem pk_ext {σ : Rho} (hm : Inr ρ m) : pk (ρ ++ σ) (ext m m.length ρ.length (m.length + σ.length)) = pk ρ m ++ σ := by
  unfold ext pk
  rw [List.map_append]
  congr 1
  · refine List.map_congr_left fun j hj => ?_
    have := hm j hj
    simp [List.getElem?_append_left this]
  · rw [Nat.add_sub_cancel_left, List.map_map]
    refine List.ext_getElem (by simp) fun i h1 h2 => ?_
    simp [h2]
theorem inr_ext {σ : Rho} (hm : Inr ρ m) : Inr (ρ ++ σ) (ext m m.length ρ.length (m.length + σ.length)) := fun j hj => by
  unfold ext at hj
  rw [Nat.add_sub_cancel_left] at hj
  rw [List.length_append]
  rcases List.mem_append.mp hj with hj | hj
  · have := hm j hj; lia
  · obtain ⟨t, ht, e⟩ := List.mem_map.mp hj
    have := List.mem_range.mp ht
    lia
theorem Tri.frame {c : Sem Value} {Q Q' : V → List AO → Prop} (hv : View m L H) (h : Tri W n (pk ρ m) L c (Val Q))
    (k : ∀ v L', L.length ≤ L'.length → Q v L' → Q' (v.ren (ext m L.length H.length L'.length)) (mrg (ext m L.length H.length L'.length) m L' H)) : Tri W n ρ H c (Val Q') := fun A s r hs g => by
  have hm := hv.inrho hs
  refine wpAny_mono (h A s r (hs.view hv) g) (fun x s' ⟨ρL', L', p, v, hx, q⟩ => ?_) fun _ _ e => e
  obtain ⟨σ, e⟩ := p.le
  subst e
  have lL : L'.length = m.length + σ.length := by rw [← p.hs.len]; simp [pk]
  have hLL : L.length ≤ L'.length := by rw [lL, hv.len]; lia
  have eE : ext m L.length H.length L'.length = ext m m.length ρ.length (m.length + σ.length) := by rw [lL, hv.len, hs.len]
  have hpk := pk_ext (σ := σ) hm
  have hinr := inr_ext (σ := σ) hm
  rw [← eE] at hpk hinr
  have k' := k v L' hLL q
  generalize ext m L.length H.length L'.length = E at k' eE hpk hinr
  have hml : m.length ≤ L'.length := by lia
  have hdis : ∀ a ∈ ρ, a ∉ σ := fun a ha hσ => by
    have h1 : a ∉ pk ρ m := fun q => (List.nodup_append.mp p.hs.nodup).2.2 a q a hσ rfl
    have h2 := p.new a (List.mem_append_right _ hσ) h1
    obtain ⟨i, e⟩ := List.getElem?_of_mem ha
    have hi : i < H.length := by rw [← hs.len]; exact (List.getElem?_eq_some_iff.mp e).1
    obtain ⟨y, ey, _⟩ := hs.ent i a H[i] e (List.getElem?_eq_getElem hi)
    rw [h2] at ey; cases ey
  refine ⟨ρ ++ σ, mrg E m L' H, ⟨⟨p.hs.keep, ?_, ?_, ?_, ?_, fun P hP => ?_⟩, .snoc _ _, ?_, ?_, p.kc, p.os, p.gens⟩, v.ren E, (V.ren_rel hinr).mpr (by rw [hpk]; exact hx), k'⟩
  · rw [mrg_len hml, List.length_append, hs.len, lL]; lia
  · rw [List.nodup_append]
    exact ⟨hs.nodup, (List.nodup_append.mp p.hs.nodup).2.1, fun a ha b hb e => hdis a ha (e ▸ hb)⟩
  · intro a ha
    rcases List.mem_append.mp ha with ha | ha
    · exact hs.fresh a ha
    · exact p.hs.fresh a (List.mem_append_right _ ha)
  · intro i a o ha ho
    by_cases hi : i < ρ.length
    · rw [List.getElem?_append_left hi] at ha
      have hiH : i < H.length := hs.len ▸ hi
      by_cases hin : i ∈ m
      · obtain ⟨qq, hq⟩ := List.getElem?_of_mem hin
        have hql : qq < L'.length := Nat.lt_of_lt_of_le (List.getElem?_eq_some_iff.mp hq).1 hml
        rw [mrg_in hml hv.nd hiH hq (List.getElem?_eq_getElem hql)] at ho
        cases ho
        obtain ⟨x, e1, e2, e3⟩ := p.hs.ent qq a L'[qq] (by
          have := (pk_get hm).mpr ⟨i, hq, ha⟩
          rw [List.getElem?_append_left (List.getElem?_eq_some_iff.mp this).1]; exact this) (List.getElem?_eq_getElem hql)
        exact ⟨x, e1, (AO.ren_is hinr).mpr (by rw [hpk]; exact e2), AO.hp_ren e3⟩
      · rw [mrg_out hml hiH hin] at ho
        obtain ⟨x, e1, e2, e3⟩ := hs.ent i a o ha ho
        refine ⟨x, p.keep a x e1 (fun hmem => ?_) (hs.tabs_not (List.mem_of_getElem? ha)), e2.mono (.snoc _ _), e3.keep p.kc⟩
        obtain ⟨j, hj, ej⟩ := pk_mem hm hmem
        exact hin (nodup_inj hs.nodup ha ej ▸ hj)
    · rw [List.getElem?_append_right (by lia)] at ha
      have hit : i = H.length + (i - ρ.length) := by rw [← hs.len]; lia
      have htl : i - ρ.length < σ.length := (List.getElem?_eq_some_iff.mp ha).1
      have htL : m.length + (i - ρ.length) < L'.length := by lia
      rw [hit, mrg_new hml (List.getElem?_eq_getElem htL)] at ho
      cases ho
      obtain ⟨x, e1, e2, e3⟩ := p.hs.ent (m.length + (i - ρ.length)) a _ (by
        rw [List.getElem?_append_right (by simp [pk])]
        simpa [pk] using ha) (List.getElem?_eq_getElem htL)
      exact ⟨x, e1, (AO.ren_is hinr).mpr (by rw [hpk]; exact e2), AO.hp_ren e3⟩
  · obtain ⟨h1, h2⟩ := p.hs.tabs P hP
    refine ⟨fun q => ?_, h2⟩
    rcases List.mem_append.mp q with q | q
    · exact (hs.tabs P hP).1 q
    · exact h1 (List.mem_append_right _ q)
  · intro a ha hn
    rcases List.mem_append.mp ha with ha | ha
    · exact absurd ha hn
    · exact p.new a (List.mem_append_right _ ha) fun q => by
        obtain ⟨j, _, ej⟩ := pk_mem hm q
        exact hn (List.mem_of_getElem? ej)
  · intro a x e hn ht
    refine p.keep a x e (fun q => ?_) ht
    obtain ⟨j, _, ej⟩ := pk_mem hm q
    exact hn (List.mem_of_getElem? ej)
theorem Tri.withInr {c : Sem Value} {Q : Rho → List AO → Value → Prop} (hv : View m L H) (h : Inr ρ m → Tri W n ρ H c Q) : Tri W n ρ H c Q := fun A s r hs g => h (hv.inrho hs) A s r hs g
theorem Cl.frame {f : V} {as kv : List V} {kn : List Str} {Q Q' : V → List AO → Prop} (hv : View m L H) (h : Cl W n L f as kn kv Q)
    (k : ∀ v L', L.length ≤ L'.length → Q v L' → Q' (v.ren (ext m L.length H.length L'.length)) (mrg (ext m L.length H.length L'.length) m L' H)) :
    Cl W n H (f.ren m) (as.map (V.ren m)) kn (kv.map (V.ren m)) Q' := fun ρ x xs ys hx hxs hys => .withInr hv fun hm =>
  .frame hv (h _ x xs ys ((V.ren_rel hm).mp hx) ((VL.ren hm).mp hxs) ((VL.ren hm).mp hys)) k
theorem Cl.mono {f : V} {as kv : List V} {kn : List Str} {Q Q' : V → List AO → Prop} (h : Cl W n H f as kn kv Q) (k : ∀ v H', Q v H' → Q' v H') : Cl W n H f as kn kv Q' := fun ρ x xs ys hx hxs hys =>
  (h ρ x xs ys hx hxs hys).mono fun _ _ _ _ ⟨v, hv, q⟩ => ⟨v, hv, k _ _ q⟩
theorem Cl.le {f : V} {as kv : List V} {kn : List Str} {Q : V → List AO → Prop} {n' : Nat} (h : Cl W n H f as kn kv Q) (l : n ≤ n') : Cl W n' H f as kn kv Q := fun ρ x xs ys hx hxs hys => (h ρ x xs ys hx hxs hys).le l
/-- the same, with the ends named -/
theorem Cl.use {f f' : V} {as kv as' kv' : List V} {kn : List Str} {v0 : V} {L0 : List AO} {Q' : V → List AO → Prop} (m : List Nat) (L : List AO) (hv : View m L H) (h : Cl W n L f as kn kv fun v L' => v = v0 ∧ L' = L0)
    (ef : f.ren m = f') (ea : as.map (V.ren m) = as') (ek : kv.map (V.ren m) = kv') (k : Q' (v0.ren (ext m L.length H.length L0.length)) (mrg (ext m L.length H.length L0.length) m L0 H)) : Cl W n H f' as' kn kv' Q' := by
  subst ef ea ek
  exact Cl.frame hv h fun v L' _ ⟨e1, e2⟩ => by subst e1 e2; exact k
end
end Mine

-- FILE B2
open PySem PySem.W PyProof.Rows
set_option Elab.async false
set_option autoImplicit false
namespace Mine
section
variable {W : Wd} {n : Nat} {ae : AE} {H : List AO} {α β : Type} {ρ : Rho}

theorem Tri.ifTrue {a c : Sem α} {Q : Rho → List AO → α → Prop} (h : Tri W n ρ H a Q) : Tri W n ρ H ((pure true : Sem Bool) >>= fun b => if b = true then a else c) Q := by
  rw [pure_bind, if_pos rfl]; exact h
theorem Ev.listComp {elt : Expr} {g : Comprehension} {gs : List Comprehension} {scope : Scope} {pos : Pos} {cs : List (Str × Nat)} {Q : V → List AO → Prop}
    (hs : ∀ env x, foldedSetIterable g.iter env x = pure x) (hc : closA ae.cells scope.names [] = some cs) (hk : scope.kind = .function) (hno : noCells scope = true) (hlo : localsOk ae.scope scope = true)
    (hg : ∀ env, eval (.ListComp elt (g :: gs) scope pos) env = comprehension (.ListComp elt (g :: gs) scope pos) scope env (firstIterPos (g :: gs) pos) (newList []) false (eval g.iter env))
    (h : Ev W n ae H g.iter fun x H1 => Ite W n H1 x fun it H2 => CmpS W n (compAE ae scope cs (H2 ++ [.lst []])) (H2 ++ [.lst []] ++ [.ns []]) (.ListComp elt (g :: gs) scope pos) 0 it (.ref H2.length) fun H5 =>
      (∃ m, H5[H2.length + 1]? = some (.ns m)) ∧ Q (.ref H2.length) (H5.set (H2.length + 1) .dict)) : Ev W n ae H (.ListComp elt (g :: gs) scope pos) Q := fun ρ env E => by
  rw [hg]
  refine Tri.comprehension E rfl hs hc hk hno hlo ?_
  have : ∀ {e d it acc H0} {Q1 Q2 : List AO → Prop}, (∀ H, Q1 H → Q2 H) → CmpS W n (compAE ae scope cs H0) (H0 ++ [.ns []]) e d it acc Q1 → CmpS W n (compAE ae scope cs H0) (H0 ++ [.ns []]) e d it acc Q2 := by
    intro e d it acc H0 Q1 Q2 hq hc ρ env x y E hx hy
    exact (hc ρ env x y E hx hy).mono fun _ _ _ _ ⟨e, q⟩ => ⟨e, hq _ q⟩
  intro ρ env E
  refine (h ρ env E).mono fun ρ1 H1 x l1 ⟨v, hv, k⟩ => ⟨v, hv, fun ρ' x' hx' => (k ρ' x' hx').mono fun ρ2 H2 y l2 ⟨it, hit, k2⟩ => ⟨it, hit, this (fun H5 ⟨hm, q⟩ => ⟨hm, fun ρ' y _ hy => ⟨_, hy, q⟩⟩) k2⟩⟩

theorem Ex.assignComp {elt : Expr} {g : Comprehension} {gs : List Comprehension} {scope : Scope} {pos : Pos} {cs : List (Str × Nat)} {x : Str} {tpos spos : Pos} {Q : Fl → List AO → Prop}
    (hsw : ∀ env, env.scope = ae.scope → swapsWithSole [.Name x tpos] (.ListComp elt (g :: gs) scope pos) spos.line env = pure true)
    (hs : ∀ env x, foldedSetIterable g.iter env x = pure x) (hc : closA ae.cells scope.names [] = some cs) (hk : scope.kind = .function) (hno : noCells scope = true) (hlo : localsOk ae.scope scope = true)
    (hg : firstAsync (g :: gs) = false)
    (h : Ev W n ae H g.iter fun x' H1 => Ite W n H1 x' fun it H2 => CmpS W n (compAE ae scope cs (H2 ++ [.lst []])) (H2 ++ [.lst []] ++ [.ns []]) (.ListComp elt (g :: gs) scope pos) 0 it (.ref H2.length) fun H5 =>
      (∃ m, H5[H2.length + 1]? = some (.ns m)) ∧ St W n ae H5 x (.ref H2.length) fun H6 => (∃ m, H6[H2.length + 1]? = some (.ns m)) ∧ Q .next (H6.set (H2.length + 1) .dict)) :
    Ex W n ae H (.Assign [.Name x tpos] (.ListComp elt (g :: gs) scope pos) spos) Q := fun ρ env E => by
  rw [arm_exec_Assign, hsw env E.scope]
  refine .stand ?_
  refine .ifTrue ?_
  rw [arm_evalThenUse_ListComp, show (assignEach [.Name x tpos] env).map (·.2) = [PySem.assign (.Name x tpos) env] from rfl]
  dsimp only
  rw [hg]
  refine Tri.bind (Q := fun _ H' _ => Q .next H') ?_ fun _ _ _ _ q => .pur ⟨.next, rfl, q⟩
  refine Tri.bind (Q := fun _ H' _ => Q .next H') ?_ fun _ _ _ _ q => .pur q
  rw [show firstIter (g :: gs) env = eval g.iter env by induction g using PySem.Comprehension.casesOn; rfl]
  refine Tri.comprehension E rfl hs hc hk hno hlo ?_
  have : ∀ {e d it acc H0} {Q1 Q2 : List AO → Prop}, (∀ H, Q1 H → Q2 H) → CmpS W n (compAE ae scope cs H0) (H0 ++ [.ns []]) e d it acc Q1 → CmpS W n (compAE ae scope cs H0) (H0 ++ [.ns []]) e d it acc Q2 := by
    intro e d it acc H0 Q1 Q2 hq hc ρ env x y E hx hy
    exact (hc ρ env x y E hx hy).mono fun _ _ _ _ ⟨e, q⟩ => ⟨e, hq _ q⟩
  intro ρ' env' E'
  refine (h ρ' env' E').mono fun ρ1 H1 x' l1 ⟨v, hv, k⟩ => ⟨v, hv, fun ρ2 x2 hx2 => (k ρ2 x2 hx2).mono fun ρ3 H2 y l3 ⟨it, hit, k2⟩ => ⟨it, hit, this (fun H5 ⟨hm, q⟩ => ⟨hm, fun ρ4 y4 l4 hy4 => ?_⟩) k2⟩⟩
  exact Asg.name (Q := fun H6 => (∃ m, H6[H2.length + 1]? = some (.ns m)) ∧ Q .next (H6.set (H2.length + 1) .dict)) q _ env y4 (E.mono l4) hy4

/-! ### unpacking -/
noncomputable def IsSeq (H : List AO) (v : V) (vs : List V) : Prop := ∃ i, v = .ref i ∧ (H[i]? = some (.lst vs) ∨ H[i]? = some (.tup vs))
theorem Tri.unpackItems {v : V} {x : Value} {vs : List V} {Q : List Value → Prop} (hi : IsSeq H v vs) (hx : v.Rel ρ x) (h : ∀ xs, VL ρ vs xs → Q xs) : Tri W n ρ H (PySem.unpackItems x vs.length none) (Same ρ H Q) := fun A s r hs g => by
  obtain ⟨i, rfl, hi⟩ := hi
  obtain ⟨a, ha, rfl⟩ := hx
  have fin : ∀ {xs : Array Value} (h' : Heap), VL ρ vs xs.toList → Heap.ExtBut s.heap.objs.size s.heap h' → ∃ ρ' H', Post W.B ρ s { s with heap := h' } ρ' H' ∧ Same ρ H Q ρ' H' xs.toList := fun h' hv he =>
    ⟨ρ, H, .grow hs (fun b x e => he b x (Nat.ne_of_lt (Heap.lt_size e)) e) rfl rfl, rfl, rfl, h _ hv⟩
  rcases hi with hi | hi
  · obtain ⟨o, ho, ⟨nn, xs, hd, hv⟩, _⟩ := hs.ent i a _ ha hi
    subst hd
    have e : vs.length = xs.size := by have := hv.length; simpa using this.symm
    rw [e]
    exact kun_itemsOf r.hd ⟨_, ho, rfl, nn, rfl⟩ fun h' he => fin h' hv he
  · obtain ⟨o, ho, ⟨nn, xs, hd, hv⟩, _⟩ := hs.ent i a _ ha hi
    subst hd
    have e : vs.length = xs.size := by have := hv.length; simpa using this.symm
    rw [e]
    exact wpAny_unpackItems_tuple r.hd ⟨_, ho, rfl, nn, rfl⟩ fun h' he => fin h' hv he

noncomputable def AsgL (W : Wd) (n : Nat) (ae : AE) : List Expr → List V → List AO → (List AO → Prop) → Prop
  | t :: ts, v :: vs, H, Q => Asg W n ae H t v fun H1 => AsgL W n ae ts vs H1 Q
  | _, _, H, Q => Q H
theorem Tri.assignInOrder {env : Env} {Q : List AO → Prop} : ∀ {ts : List Expr} {vs : List V} {xs : List Value} {H : List AO} {ρ : Rho}, EnvIs ρ ae env → VL ρ vs xs → AsgL W n ae ts vs H Q →
    Tri W n ρ H (PySem.assignInOrder (ts.map fun t => assign t env) xs) (fun _ H' _ => Q H')
  | t :: ts, v :: vs, x :: xs, H, ρ, E, hv, h => by
    show Tri W n ρ H (do PySem.holding xs (assign t env x); PySem.assignInOrder (ts.map fun t => assign t env) xs) _
    exact Tri.bind (.holding (h ρ env x E hv.1)) fun ρ1 H1 _ l1 k => Tri.assignInOrder (E.mono l1) (hv.2.mono l1) k
  | [], vs, xs, H, ρ, _, _, h => by
    have : AsgL W n ae [] vs H Q = Q H := by induction vs using List.casesOn <;> rfl
    rw [this] at h
    exact .pur h
  | t :: ts, [], [], H, ρ, _, _, h => .pur h
  | _ :: _, [], _ :: _, _, _, _, e, _ => e.elim
  | _ :: _, _ :: _, [], _, _, _, e, _ => e.elim
theorem Asg.tuple {ts : List Expr} {k : Nat} {pos : Pos} {v : V} {vs : List V} {Q : List AO → Prop} (he : ∀ env, assignEach ts env = ts.map fun t => (false, assign t env)) (hi : IsSeq H v vs) (hl : ts.length = vs.length) (h : AsgL W n ae ts vs H Q) : Asg W n ae H (.Tuple ts k pos) v Q := fun ρ env x E hv => by
  rw [arm_assign_Tuple, he]
  refine .stand ?_
  unfold unpack
  have e1 : (ts.map fun t => (false, assign t env)).findIdx? (·.1) = none := by rw [List.findIdx?_eq_none_iff]; intro x hx; obtain ⟨t, _, rfl⟩ := List.mem_map.mp hx; rfl
  have e2 : (ts.map fun t => (false, assign t env)).map (·.2) = ts.map fun t => assign t env := by rw [List.map_map]; rfl
  rw [e1, e2, List.length_map, hl]
  exact Tri.bindS _ (.holding (.unpackItems hi hv fun xs h => h)) fun xs hxs => .assignInOrder E hxs h

noncomputable def StL (W : Wd) (n : Nat) (ae : AE) : List Str → List V → List AO → (List AO → Prop) → Prop
  | t :: ts, v :: vs, H, Q => St W n ae H t v fun H1 => StL W n ae ts vs H1 Q
  | _, _, H, Q => Q H
theorem Tri.bindName {env : Env} {x : Str} {y : Value} {v : V} {Q : List AO → Prop} (E : EnvIs ρ ae env) (hv : v.Rel ρ y) (h : St W n ae H x v Q) : Tri W n ρ H (PySem.bindName env x y) (fun _ H' _ => Q H') := by
  refine Tri.bindS (fun _ => True) (.holding (.point ⟨rfl, rfl, trivial⟩)) fun _ _ => ?_
  exact Tri.bind (h _ env y E hv) fun _ _ _ _ q => .point q
theorem Tri.bindInOrder {env : Env} {Q : List AO → Prop} : ∀ {ts : List Str} {vs : List V} {xs : List Value} {H : List AO} {ρ : Rho}, EnvIs ρ ae env → VL ρ vs xs → StL W n ae ts vs H Q →
    Tri W n ρ H (PySem.assignInOrder (ts.map fun t => PySem.bindName env t) xs) (fun _ H' _ => Q H')
  | t :: ts, v :: vs, x :: xs, H, ρ, E, hv, h => by
    show Tri W n ρ H (do PySem.holding xs (PySem.bindName env t x); PySem.assignInOrder (ts.map fun t => PySem.bindName env t) xs) _
    exact Tri.bind (.holding (.bindName E hv.1 h)) fun ρ1 H1 _ l1 k => Tri.bindInOrder (E.mono l1) (hv.2.mono l1) k
  | [], vs, xs, H, ρ, _, _, h => by
    have : StL W n ae [] vs H Q = Q H := by induction vs using List.casesOn <;> rfl
    rw [this] at h
    exact .pur h
  | t :: ts, [], [], H, ρ, _, _, h => .pur h
  | _ :: _, [], _ :: _, _, _, _, e, _ => e.elim
  | _ :: _, _ :: _, [], _, _, _, e, _ => e.elim
theorem VL.reverse {ρ : Rho} : ∀ {vs : List V} {xs : List Value}, VL ρ vs xs → VL ρ vs.reverse xs.reverse
  | [], [], h => h
  | v :: vs, x :: xs, h => by simp only [List.reverse_cons]; exact VL.append (VL.reverse h.2) ⟨h.1, trivial⟩
  | [], _ :: _, e => e.elim
  | _ :: _, [], e => e.elim
/-- names stored the last first -/
theorem Ex.assignSwap {t e : Expr} {pos : Pos} {names : List Str} {Q : Fl → List AO → Prop} (hs : ∀ env, swapsWithSole [t] e pos.line env = pure false) (hss : ∀ env, env.scope = ae.scope → swappedStores [t] e env = pure (some names))
    (h : Ev W n ae H e fun v H1 => ∃ vs, IsSeq H1 v vs ∧ names.length = vs.length ∧ StL W n ae names.reverse vs.reverse H1 fun H2 => Q .next H2) : Ex W n ae H (.Assign [t] e pos) Q := fun ρ env E => by
  rw [arm_exec_Assign, hs env]
  refine .stand ?_
  show Tri W n ρ H (do let v ← eval e env; assignStores env v (← swappedStores [t] e env) ((assignEach [t] env).map (·.2))) _
  rw [hss env E.scope]
  refine Tri.bind (h ρ env E) fun ρ1 H1 x l1 ⟨v, hv, vs, hi, hl, k⟩ => ?_
  show Tri W n ρ1 H1 (do PySem.rule "assign.swapped-stores"; let items ← PySem.unpackItems x names.length none; PySem.assignInOrder (names.reverse.map fun n => PySem.bindName env n) items.reverse; pure Flow.next) _
  rw [hl]
  refine .ruleB (Tri.bindS _ (.unpackItems hi hv fun xs h => h) fun xs hxs => ?_)
  exact Tri.bind (.bindInOrder (E.mono l1) hxs.reverse k) fun _ _ _ _ q => .pur ⟨.next, rfl, q⟩
end
end Mine

-- FILE B3
open PySem PySem.W PyProof.Rows
set_option Elab.async false
set_option autoImplicit false
namespace Mine
section
variable {W : Wd} {n : Nat} {ae : AE} {H : List AO} {α β : Type} {ρ : Rho}

/-- the code c of the text keeps its table at P, and what is made there is called q -/
structure Coded (W : Wd) (c P : Addr) (q : Str) : Prop where
  hd : CodeHd W.B.heap c P
  mem : P ∈ W.B.tabs
  qn : W.B.qn P = q

theorem codeAmong_append {pos : Pos} {t : List Value} : ∀ {l : List Value}, TriplesOk l → codeAmong pos (l ++ t) = (codeAmong pos l).or (codeAmong pos t)
  | [], _ => by simp [codeAmong]
  | .int a ta :: .int b tb :: c :: rest, h => by
    have ih := codeAmong_append (pos := pos) (t := t) (l := rest) h
    simp only [List.cons_append, codeAmong]
    split
    · rfl
    · exact ih
theorem tab_notCode {xs : Array Value} (h : TriplesOk xs.toList) : ¬ CodeLike (tabObj xs) := by
  rintro ⟨hc, _⟩
  cases hc
theorem Post.tab {B : Bs} {s s' : Shared} (hs : HS B ρ H s.heap) {P : Addr} (hP : P ∈ B.tabs) {xs : Array Value} {line col : Int} {c : Value} (hx : s.heap.get? P = some (tabObj xs)) (ht : TriplesOk xs.toList)
    (he : Heap.ExtBut P s.heap s'.heap) (hx' : s'.heap.get? P = some (tabObj (xs ++ #[rawInt line, rawInt col, c]))) (hr : CodeAt s'.heap c (B.qn P)) (e1 : (s'.os, s'.drawn) = (s.os, s.drawn)) (e2 : s'.gens = s.gens) : Post B ρ s s' ρ H := by
  have kc : KeepCode s.heap s'.heap := fun b x cl e => by
    by_cases q : b = P
    · subst q; rw [hx] at e; cases e; exact absurd cl (tab_notCode ht)
    · exact he b x q e
  have hn : ∀ a ∈ ρ, a ≠ P := fun a ha q => (hs.tabs P hP).1 (q ▸ ha)
  refine ⟨⟨fun a x e => ?_, hs.len, hs.nodup, hs.fresh, fun i a o h1 h2 => ?_, fun P' hP' => ?_⟩, .refl _, fun _ h1 h2 => absurd h1 h2, fun a x e _ hnt => he a x (fun q => hnt (q ▸ hP)) e, kc, e1, e2⟩
  · refine he a x (fun q => ?_) (hs.keep a x e)
    have := (hs.tabs P hP).2.1
    rw [← q, e] at this; cases this
  · obtain ⟨x, e, k, p⟩ := hs.ent i a o h1 h2
    exact ⟨x, he a x (hn a (List.mem_of_getElem? h1)) e, k, p.keep kc⟩
  · obtain ⟨h1, h2, ys, h3, h4, h5⟩ := hs.tabs P' hP'
    by_cases q : P' = P
    · subst q
      rw [hx] at h3; cases h3
      refine ⟨h1, h2, _, hx', ?_, fun pos d e => ?_⟩
      · have : (xs ++ #[rawInt line, rawInt col, c]).toList = xs.toList ++ [rawInt line, rawInt col, c] := by simp
        rw [this]; exact TriplesOk_snoc _ _ _ _ ht
      · have : (xs ++ #[rawInt line, rawInt col, c]).toList = xs.toList ++ [rawInt line, rawInt col, c] := by simp
        rw [this, codeAmong_append ht] at e
        cases h : codeAmong pos xs.toList with
        | some d' => rw [h] at e; cases e; exact kc.rec (h5 pos d h)
        | none =>
          rw [h] at e
          simp only [Option.or, codeAmong, rawInt] at e
          split at e
          · cases e; exact hr
          · cases e
    · exact ⟨h1, h2, ys, he P' _ q h3, h4, fun pos c e => kc.rec (h5 pos c e)⟩

noncomputable def docM (body : FuncBody) : Sem Value := match body with
  | .stmts b => (match docOf b with | some s => mkText s | none => Pure.pure .none)
  | .expr _ => Pure.pure .none
noncomputable def tailM (name qual : Str) (params : Arguments) (body : FuncBody) (scope : Scope) (env : Env) (clos : List (Str × Addr)) (ct cv : Value) : Sem Value := do
  let bl ← builtinsFor env.globals env.builtins
  let pm ← nsGet env.globals "__name__"
  let doc ← docM body
  newObj (.type "function") (.func ({ name, qualname := qual, params, body, scope, globals := env.globals, closure := clos, closureTuple := ct, code := cv, builtins := bl, defaults := .none, kwdefaults := .none, annotations := none, pyModule := pm.getD .none, doc := doc } : FuncData))
theorem Tri.tailM {gl : Str → Option Value} (hB : Base W gl) {c P : Addr} {name qual : Str} {params : Arguments} {body : FuncBody} {scope : Scope} {env : Env} {pos : Pos} {fl : Nat} {cs : List (Str × Nat)} {Q : V → List AO → Prop} {clos : List (Str × Addr)} {ct : Value}
    (hC : Coded W c P qual) (E : EnvIs ρ ae env) (hcode : ae.code = some c) (hclos : CellsRel ρ cs clos) (hl : ρ.length = H.length)
    (h : Q (.ref H.length) (H ++ [.fn { name, qual, params, body, scope, cells := cs, dict := Option.none }])) :
    Tri W n ρ H (functionCode env pos fl name qual params scope body >>= fun cv => Mine.tailM name qual params body scope env clos ct cv) (Val Q) := by
  intro A s r hs g
  have ec := E.code
  rw [hcode] at ec
  obtain ⟨hnr, hnb, xs, hx, ht, hr⟩ := hs.tabs P hC.mem
  have C := hC.hd.keeps hs.keep
  obtain ⟨bm, ob, hbm, hne0, hbo, hcls, hdict, hdata⟩ := hB.mod
  have tail : ∀ (cv : Value) (s2 : Shared), Post W.B ρ s s2 ρ H → CodeAt s2.heap cv qual → wpAny W.M A (Mine.tailM name qual params body scope env clos ct cv)
      (fun a s' => ∃ ρ' H', Post W.B ρ s s' ρ' H' ∧ Val Q ρ' H' a) (fun _ _ => False) s2 := fun cv s2 p hrec => by
    have hg2 : s2.heap.Ns mainGlobals gl := hB.g.keeps p.hs.keep
    unfold Mine.tailM docM
    rw [E.gl]
    refine wpAny_bind (wpAny_builtinsFor hg2 hbm hne0 (p.hs.keep _ _ hbo) hcls hdict hdata ?_)
    refine wpAny_bind (wpAny_nsGet hg2 ?_)
    have fin : ∀ (doc : Value) (s3 : Shared), s3.heap = s2.heap → (s3.os, s3.drawn) = (s2.os, s2.drawn) → s3.gens = s2.gens → wpAny W.M A (newObj (.type "function") (.func ({ name, qualname := qual, params, body, scope, globals := mainGlobals, closure := clos, closureTuple := ct, code := cv, builtins := builtinsNs, defaults := .none, kwdefaults := .none, annotations := Option.none, pyModule := (gl "__name__").getD .none, doc := doc } : FuncData)))
        (fun a s' => ∃ ρ' H', Post W.B ρ s s' ρ' H' ∧ Val Q ρ' H' a) (fun _ _ => False) s3 := fun doc s3 e1 e2 e3 => by
      refine wpAny_newObj_type ?_ (by size_fits)
      have p3 : Post W.B ρ s s3 ρ H := p.trans (.toks p.hs e1 e2 e3)
      refine ⟨_, _, p3.trans (.push (t := s3.toks) (o := .fn { name, qual, params, body, scope, cells := cs, dict := Option.none }) p3.hs rfl ?_ ?_), .ref H.length, ⟨s3.heap.objs.size, by rw [← hl]; simp, rfl⟩, h⟩
      · exact ⟨rfl, trivial, _, rfl, rfl, rfl, rfl, rfl, rfl, rfl, rfl, rfl, rfl, hclos.mono (.snoc _ _)⟩
      · intro fd hfd
        cases hfd
        have : CodeAt s3.heap cv qual := by rw [e1]; exact hrec
        exact this.keeps fun _ _ e => Heap.get?_push_of_some _ e
    induction body with
    | stmts b =>
      dsimp only
      cases docOf b with
      | none => exact wpAny_bind (wpAny_pure (fin _ _ rfl rfl rfl))
      | some d => exact wpAny_bind (wpAny_mkText (fin _ _ rfl rfl rfl))
    | expr e => exact wpAny_bind (wpAny_pure (fin _ _ rfl rfl rfl))
  cases hca : codeAmong pos xs.toList with
  | none =>
    refine wpAny_bind (wpAny_functionCodeX ec (C.code hx ht) (C.tab hx) hca fun c' h' tk hxt hge hlt _ hrec0 htb hPc => ?_)
    have hrec : CodeAt h' (.ref c') qual := by
      obtain ⟨_, _, _, ⟨oc, vc, hoc, hcc, hdc, _⟩, _⟩ := hPc
      obtain ⟨c2, o2, vs2, t2, e2, g2, d2, r2⟩ := hrec0
      cases e2
      rw [hoc] at g2; cases g2
      exact ⟨_, oc, vs2, t2, rfl, hoc, hcc, d2, r2⟩
    exact tail _ _ (.tab (s' := { s with heap := h', toks := tk }) hs hC.mem hx ht hxt htb.2 (by rw [hC.qn]; exact hrec) rfl rfl) hrec
  | some cv =>
    refine wpAny_bind (wpAny_functionCode_hit ec (C.code hx ht) hca ?_)
    exact tail _ _ (.refl hs) (by rw [← hC.qn]; exact hr _ _ hca)

theorem Tri.makeFunction {gl : Str → Option Value} (hB : Base W gl) {c P : Addr} {name qual : Str} {params : Arguments} {body : FuncBody} {scope : Scope} {env : Env} {pos : Pos} {fl : Nat} {cs : List (Str × Nat)} {Q : V → List AO → Prop}
    (hC : Coded W c P qual) (E : EnvIs ρ ae env) (hcode : ae.code = some c) (hkw : params.kwonlyargs = []) (hcl : closA ae.cells scope.names [] = some cs)
    (h : Q (.ref H.length) (H ++ [.fn { name, qual, params, body, scope, cells := cs, dict := Option.none }])) :
    Tri W n ρ H (PySem.makeFunction name qual params body scope env [] [] [] pos fl) (Val Q) := .withLen fun hl => by
  rw [makeFunction_eq]
  simp only [hkw, List.zip_nil_left, List.filterMap_nil, List.isEmpty_nil, if_true, pure_bind]
  have key : PySem.makeTail name qual params body scope env .none .none Option.none pos fl = (do
      let clos ← PySem.closureFor scope env
      let ct ← (if clos.isEmpty then Pure.pure Value.none else newTextTuple ((clos.mergeSort fun a b => a.1.cps.toList ≤ b.1.cps.toList).map (.ref ·.2)) : Sem Value)
      functionCode env pos fl name qual params scope body >>= fun cv => Mine.tailM name qual params body scope env clos ct cv) := by
    refine congrArg (fun f => PySem.closureFor scope env >>= f) (funext fun clos => ?_)
    induction clos using List.casesOn <;> induction body <;> rfl
  rw [key]
  refine Tri.bindS (fun xs => CellsRel ρ cs xs) (.closureFor E hcl fun xs hx => ⟨rfl, rfl, hx⟩) fun clos hclos => ?_
  refine Tri.bindS (fun _ => True) ?_ fun ct _ => .tailM hB hC E hcode hclos hl h
  split
  · exact .pur ⟨rfl, rfl, trivial⟩
  · exact fun A s r hs g => wpAny_newTextTuple ⟨ρ, H, .grow (s' := { s with heap := s.heap.push _ }) hs (fun _ _ e => Heap.get?_push_of_some _ e) rfl rfl, rfl, rfl, trivial⟩

theorem Ev.lambda {gl : Str → Option Value} (hB : Base W gl) {c P : Addr} {params : Arguments} {body : Expr} {scope : Scope} {pos : Pos} {cs : List (Str × Nat)} {Q : V → List AO → Prop}
    (hC : Coded W c P (ae.qual ++ "<lambda>")) (hcode : ae.code = some c) (hd : ∀ env, defaultsOf params env = ([], [])) (hkw : params.kwonlyargs = []) (hcl : closA ae.cells scope.names [] = some cs)
    (h : Q (.ref H.length) (H ++ [.fn { name := "<lambda>", qual := ae.qual ++ "<lambda>", params, body := .expr body, scope, cells := cs, dict := Option.none }])) :
    Ev W n ae H (.Lambda params body scope pos) Q := fun ρ env E => by
  rw [arm_eval_Lambda, hd]
  show Tri W n ρ H (do let dv ← (pure [] : Sem (List Value)); let kdv ← PySem.holding dv (pure [] : Sem (List (Option Value))); PySem.makeFunction "<lambda>" (env.qual ++ "<lambda>") params (.expr body) scope env dv kdv [] pos pos.line) _
  refine Tri.bindS (fun x => x = []) (.pur ⟨rfl, rfl, rfl⟩) fun _ e => ?_
  subst e
  refine Tri.bindS (fun x => x = []) (.holding (.pur ⟨rfl, rfl, rfl⟩)) fun _ e => ?_
  subst e
  rw [E.qual]
  exact .makeFunction hB hC E hcode hkw hcl h
theorem Ex.def {gl : Str → Option Value} (hB : Base W gl) {c P : Addr} {name : Str} {params : Arguments} {body : List Stmt} {scope : Scope} {pos : Pos} {cs : List (Str × Nat)} {Q : Fl → List AO → Prop}
    (hC : Coded W c P (ae.qual ++ name)) (hcode : ae.code = some c) (hd : ∀ env, defaultsOf params env = ([], [])) (hkw : params.kwonlyargs = [])
    (han : ∀ env, annotationsOf (params.args ++ params.posonlyargs ++ params.vararg.toList ++ params.kwonlyargs ++ params.kwarg.toList) env = []) (hcl : closA ae.cells scope.names [] = some cs)
    (hk : (ae.scope.names.lookup name == some .globalExplicit) = false)
    (h : St W n ae (H ++ [.fn { name, qual := ae.qual ++ name, params, body := .stmts body, scope, cells := cs, dict := Option.none }]) name (.ref H.length) fun H1 => Q .next H1) :
    Ex W n ae H (.FunctionDef name params body [] none [] scope none name pos) Q := fun ρ env E => by
  rw [arm_exec_FunctionDef, hd]
  unfold defStmt
  simp only [List.isEmpty_nil, Bool.not_true, Bool.false_and, Bool.false_eq_true, if_false]
  refine Tri.bindS (fun x => x = []) (.pur ⟨rfl, rfl, rfl⟩) fun _ e => ?_
  subst e
  refine .stand ?_
  refine Tri.bind (Q := Val fun v H' => v = .ref H.length ∧ H' = H ++ [.fn { name, qual := ae.qual ++ name, params, body := .stmts body, scope, cells := cs, dict := Option.none }]) (.holding ?_) fun ρ1 H1 x l1 ⟨v, hv, e1, e2⟩ => ?_
  · refine Tri.bindS (fun x => x = []) (.pur ⟨rfl, rfl, rfl⟩) fun _ e => ?_
    subst e
    refine Tri.bindS (fun x => x = []) (.holding (.pur ⟨rfl, rfl, rfl⟩)) fun _ e => ?_
    subst e
    refine .holding ?_
    refine Tri.bindS (fun x => x = []) (by induction params using PySem.Arguments.casesOn; dsimp only at han ⊢; rw [han]; exact .pur ⟨rfl, rfl, rfl⟩) fun _ e => ?_
    subst e
    have : qualnameIn env name name = ae.qual ++ name := by
      unfold qualnameIn Env.kindOf
      rw [E.scope, hk, E.qual]; rfl
    rw [this]
    exact .makeFunction hB hC E hcode hkw hcl ⟨rfl, rfl⟩
  · subst e1 e2
    refine Tri.bindS (fun y => y = x) (.pur ⟨rfl, rfl, rfl⟩) fun _ e => ?_
    subst e
    refine .stand (Tri.bind (.bindName (E.mono l1) hv h) fun _ _ _ _ q => .pur ⟨.next, rfl, q⟩)
end
end Mine

-- FILE B4
open PySem PySem.W PyProof.Rows
set_option Elab.async false
set_option autoImplicit false
namespace Mine
section
variable {W : Wd} {n : Nat} {ae : AE} {H : List AO} {ρ : Rho}

theorem Val.int {i : Int} {t : Tok} {Q : V → List AO → Prop} (h : Q (.int i) H) : Val Q ρ H (.int i t) := ⟨.int i, ⟨_, rfl⟩, h⟩
theorem Val.flt {i : UInt64} {t : Tok} {Q : V → List AO → Prop} (h : Q (.flt i) H) : Val Q ρ H (.float i t) := ⟨.flt i, ⟨_, rfl⟩, h⟩
theorem Val.str {i : Str} {t : Tok} {Q : V → List AO → Prop} (h : Q (.str i) H) : Val Q ρ H (.str i t) := ⟨.str i, ⟨_, rfl⟩, h⟩
theorem Val.bool {i : Bool} {Q : V → List AO → Prop} (h : Q (.bool i) H) : Val Q ρ H (.bool i) := ⟨.bool i, rfl, h⟩
/-! ### whole numbers -/
theorem Bin.addI {a b : Int} {Q : V → List AO → Prop} (h : Q (.int (a + b)) H) : Bin W n H .Add (.int a) (.int b) Q := fun _ _ _ ⟨_, hx⟩ ⟨_, hy⟩ => by
  subst hx hy; exact .quiet fun _ _ _ _ _ => AutoIntOps.add_0 ⟨rfl, rfl, rfl, Val.int h⟩
theorem Bin.subI {a b : Int} {Q : V → List AO → Prop} (h : Q (.int (a - b)) H) : Bin W n H .Sub (.int a) (.int b) Q := fun _ _ _ ⟨_, hx⟩ ⟨_, hy⟩ => by
  subst hx hy; exact .quiet fun _ _ _ _ _ => AutoIntOps.sub_0 ⟨rfl, rfl, rfl, Val.int h⟩
noncomputable def Fits (a : Int) : Prop := -(2 ^ 64) < a ∧ a < 2 ^ 64
theorem Bin.mulI {a b : Int} {Q : V → List AO → Prop} (h : Q (.int (a * b)) H) (hf : Fits a ∨ Fits b) : Bin W n H .Mult (.int a) (.int b) Q := fun _ _ _ ⟨_, hx⟩ ⟨_, hy⟩ => by
  subst hx hy
  exact .quiet fun _ _ _ _ _ => AutoIntOps.mul_0 ⟨rfl, rfl, rfl, Val.int h⟩ (hf.elim (fun e => .of_left (intBits_le_64 e.1 e.2)) fun e => .of_right (intBits_le_64 e.1 e.2))
theorem Bin.divI {a b : Int} {Q : V → List AO → Prop} (h : Q (.int (a.fdiv b)) H) (hb : b ≠ 0) (hf : b.natAbs < 1073741824) : Bin W n H .FloorDiv (.int a) (.int b) Q := fun _ _ _ ⟨_, hx⟩ ⟨_, hy⟩ => by
  subst hx hy
  exact .quiet fun _ _ _ _ _ => AutoIntOps.floordiv_1 (by simpa using hb) (by rw [PyProof.noPylong_small hf]; exact Bool.false_ne_true) ⟨rfl, rfl, rfl, Val.int h⟩
theorem Bin.modI {a b : Int} {Q : V → List AO → Prop} (h : Q (.int (a.fmod b)) H) (hb : b ≠ 0) : Bin W n H .Mod (.int a) (.int b) Q := fun _ _ _ ⟨_, hx⟩ ⟨_, hy⟩ => by
  subst hx hy
  exact .quiet fun _ _ _ _ _ => AutoIntOps.mod_1 (by simpa using hb) ⟨rfl, rfl, rfl, Val.int h⟩
theorem Bin.shrI {a b : Int} {Q : V → List AO → Prop} (h : Q (.int (a.fdiv (2 ^ b.toNat))) H) (hb : 0 ≤ b) : Bin W n H .RShift (.int a) (.int b) Q := fun _ _ _ ⟨_, hx⟩ ⟨_, hy⟩ => by
  subst hx hy
  exact .quiet fun _ _ _ _ _ => PyProof.Rows.rshift_int hb ⟨rfl, rfl, rfl, Val.int h⟩
theorem Bin.shlI {a b : Int} {Q : V → List AO → Prop} (h : Q (.int (a * 2 ^ b.toNat)) H) (hb : 0 ≤ b) (hs : (Builtin.Int.intBits a : Int) + b ≤ 2 ^ 27) : Bin W n H .LShift (.int a) (.int b) Q := fun _ _ _ ⟨_, hx⟩ ⟨_, hy⟩ => by
  subst hx hy
  exact .quiet fun _ _ _ _ _ => PyProof.Rows.lshift_int hb hs ⟨rfl, rfl, rfl, Val.int h⟩
theorem Bin.xorI {a b : Int} {Q : V → List AO → Prop} (h : Q (.int (Builtin.bitXor a b)) H) : Bin W n H .BitXor (.int a) (.int b) Q := fun _ _ _ ⟨_, hx⟩ ⟨_, hy⟩ => by
  subst hx hy
  exact .quiet fun _ _ _ _ _ => PyProof.Rows.xor_int ⟨rfl, rfl, rfl, Val.int h⟩
theorem Bin.powI {a b : Int} {Q : V → List AO → Prop} (h : Q (.int (a ^ b.toNat)) H) (hb : 0 ≤ b) (hs : (Builtin.Int.intBits a : Int) * b ≤ 2 ^ 27) : Bin W n H .Pow (.int a) (.int b) Q := fun _ _ _ ⟨_, hx⟩ ⟨_, hy⟩ => by
  subst hx hy
  exact .quiet fun _ _ _ _ _ => PyProof.Rows.pow_int hb hs ⟨rfl, rfl, rfl, Val.int h⟩
theorem Un.negI {a : Int} {Q : V → List AO → Prop} (h : Q (.int (-a)) H) : Un W n H .USub (.int a) Q := fun _ _ ⟨_, hx⟩ => by
  subst hx; exact .quiet fun _ _ _ _ _ => PyProof.Rows.neg_int ⟨rfl, rfl, rfl, Val.int h⟩
theorem Un.invI {a : Int} {Q : V → List AO → Prop} (h : Q (.int (Builtin.bitNot a)) H) : Un W n H .Invert (.int a) Q := fun _ _ ⟨_, hx⟩ => by
  subst hx; exact .quiet fun _ _ _ _ _ => PyProof.Rows.invert_int ⟨rfl, rfl, rfl, Val.int h⟩
theorem InP.addI {a b : Int} {Q : V → List AO → Prop} (h : Q (.int (a + b)) H) : InP W n H .Add (.int a) (.int b) Q := fun _ _ _ ⟨_, hx⟩ ⟨_, hy⟩ => by
  subst hx hy; exact .quiet fun _ _ _ _ _ => AutoIntOps.iadd_0 ⟨rfl, rfl, rfl, Val.int h⟩
noncomputable def cmpI : CmpOp → Int → Int → Option Bool
  | .Eq, a, b => some (a == b)
  | .NotEq, a, b => some (a != b)
  | .Lt, a, b => some (decide (a < b))
  | .LtE, a, b => some (decide (a ≤ b))
  | .Gt, a, b => some (decide (a > b))
  | .GtE, a, b => some (decide (a ≥ b))
  | _, _, _ => none
theorem Cmp.int {op : CmpOp} {a b : Int} {c : Bool} {Q : V → List AO → Prop} (hc : cmpI op a b = some c) (h : Q (.bool c) H) : Cmp W n H op (.int a) (.int b) Q := fun _ _ _ ⟨_, hx⟩ ⟨_, hy⟩ => by
  subst hx hy
  refine .quiet fun _ _ _ _ _ => ?_
  induction op with
  | Eq => cases hc; exact PySem.P.eq_int ⟨rfl, rfl, rfl, Val.bool h⟩
  | NotEq => cases hc; exact PySem.P.ne_int ⟨rfl, rfl, rfl, Val.bool h⟩
  | Lt => cases hc; exact PySem.P.lt_int ⟨rfl, rfl, rfl, Val.bool h⟩
  | LtE => cases hc; exact PySem.P.le_int ⟨rfl, rfl, rfl, Val.bool h⟩
  | Gt => cases hc; exact PySem.P.gt_int ⟨rfl, rfl, rfl, Val.bool h⟩
  | GtE => cases hc; exact PySem.P.ge_int ⟨rfl, rfl, rfl, Val.bool h⟩
  | _ => cases hc
theorem Tru.bool {b : Bool} {Q : Bool → List AO → Prop} (h : Q b H) : Tru W n H (.bool b) Q := fun _ _ hx => by
  cases hx; exact .quiet fun _ _ _ _ _ => wpAny_truthy_bool ⟨rfl, rfl, rfl, h⟩
theorem Tru.int {a : Int} {Q : Bool → List AO → Prop} (h : Q (a != 0) H) : Tru W n H (.int a) Q := fun _ _ ⟨_, hx⟩ => by
  subst hx; exact .quiet fun _ _ _ _ _ => PySem.P.truthy_int ⟨rfl, rfl, rfl, h⟩

/-! ### floats -/
theorem Bin.addF {a b : UInt64} {Q : V → List AO → Prop} (h : Q (.flt (Float64.add a b)) H) : Bin W n H .Add (.flt a) (.flt b) Q := fun _ _ _ ⟨_, hx⟩ ⟨_, hy⟩ => by
  subst hx hy; exact .quiet fun _ _ _ _ _ => AutoFloatOps.add_0 ⟨rfl, rfl, rfl, Val.flt h⟩
theorem Bin.subF {a b : UInt64} {Q : V → List AO → Prop} (h : Q (.flt (Float64.sub a b)) H) : Bin W n H .Sub (.flt a) (.flt b) Q := fun _ _ _ ⟨_, hx⟩ ⟨_, hy⟩ => by
  subst hx hy; exact .quiet fun _ _ _ _ _ => AutoFloatOps.sub_0 ⟨rfl, rfl, rfl, Val.flt h⟩
theorem Bin.mulF {a b : UInt64} {Q : V → List AO → Prop} (h : Q (.flt (Float64.mul a b)) H) : Bin W n H .Mult (.flt a) (.flt b) Q := fun _ _ _ ⟨_, hx⟩ ⟨_, hy⟩ => by
  subst hx hy; exact .quiet fun _ _ _ _ _ => AutoFloatOps.mul_0 ⟨rfl, rfl, rfl, Val.flt h⟩
theorem Bin.divF {a b : UInt64} {Q : V → List AO → Prop} (h : Q (.flt (Float64.div a b)) H) (hb : Float64.isZero b = false) : Bin W n H .Div (.flt a) (.flt b) Q := fun _ _ _ ⟨_, hx⟩ ⟨_, hy⟩ => by
  subst hx hy; exact .quiet fun _ _ _ _ _ => AutoFloatOps.truediv_1 (by rw [hb]; exact Bool.false_ne_true) ⟨rfl, rfl, rfl, Val.flt h⟩
theorem Bin.modF {a b : UInt64} {Q : V → List AO → Prop} (h : Q (.flt (Float64.divmod a b).snd) H) (hb : Float64.isZero b = false) : Bin W n H .Mod (.flt a) (.flt b) Q := fun _ _ _ ⟨_, hx⟩ ⟨_, hy⟩ => by
  subst hx hy; exact .quiet fun _ _ _ _ _ => AutoFloatOps.mod_1 (by rw [hb]; exact Bool.false_ne_true) ⟨rfl, rfl, rfl, Val.flt h⟩
theorem Bin.mulFI {a : UInt64} {b : Int} {Q : V → List AO → Prop} (h : Q (.flt (Float64.mul a (Float64.ofInt b))) H) (hb : Float64.isInf (Float64.ofInt b) = false) : Bin W n H .Mult (.flt a) (.int b) Q := fun _ _ _ ⟨_, hx⟩ ⟨_, hy⟩ => by
  subst hx hy; exact .quiet fun _ _ _ _ _ => AutoFloatOps.mul_fi_1 (by rw [hb]; exact Bool.false_ne_true) ⟨rfl, rfl, rfl, Val.flt h⟩
noncomputable def fracF (a b : Int) : UInt64 := Float64.ofFrac (decide (a < 0) != decide (b < 0)) a.natAbs b.natAbs
theorem Bin.tdivI {a b : Int} {Q : V → List AO → Prop} (h : Q (.flt (fracF a b)) H) (hb : b ≠ 0) (hi : Float64.isInf (fracF a b) = false) : Bin W n H .Div (.int a) (.int b) Q := fun _ _ _ ⟨_, hx⟩ ⟨_, hy⟩ => by
  subst hx hy; exact .quiet fun _ _ _ _ _ => AutoIntOps.truediv_2 (by simpa using hb) (fun e => by rw [show Float64.isInf (fracF a b) = true from e] at hi; cases hi) (show (Made.float (fracF a b)).post _ _ from ⟨rfl, rfl, rfl, Val.flt h⟩)
noncomputable def cmpF : CmpOp → UInt64 → UInt64 → Option Bool
  | .Eq, a, b => some (Float64.cmp a b == some Ordering.eq)
  | .NotEq, a, b => some (Float64.cmp a b != some Ordering.eq)
  | .Lt, a, b => some (Float64.cmp a b == some Ordering.lt)
  | .LtE, a, b => some (Float64.cmp a b == some Ordering.lt || Float64.cmp a b == some Ordering.eq)
  | .Gt, a, b => some (Float64.cmp a b == some Ordering.gt)
  | .GtE, a, b => some (Float64.cmp a b == some Ordering.gt || Float64.cmp a b == some Ordering.eq)
  | _, _, _ => none
theorem Cmp.flt {op : CmpOp} {a b : UInt64} {c : Bool} {Q : V → List AO → Prop} (hc : cmpF op a b = some c) (h : Q (.bool c) H) : Cmp W n H op (.flt a) (.flt b) Q := fun _ _ _ ⟨_, hx⟩ ⟨_, hy⟩ => by
  subst hx hy
  refine .quiet fun _ _ _ _ _ => ?_
  induction op with
  | Eq => cases hc; exact AutoFloatOps.eq_0 ⟨rfl, rfl, rfl, Val.bool h⟩
  | NotEq => cases hc; exact AutoFloatOps.ne_0 ⟨rfl, rfl, rfl, Val.bool h⟩
  | Lt => cases hc; exact AutoFloatOps.lt_0 ⟨rfl, rfl, rfl, Val.bool h⟩
  | LtE => cases hc; exact AutoFloatOps.le_0 ⟨rfl, rfl, rfl, Val.bool h⟩
  | Gt => cases hc; exact AutoFloatOps.gt_0 ⟨rfl, rfl, rfl, Val.bool h⟩
  | GtE => cases hc; exact AutoFloatOps.ge_0 ⟨rfl, rfl, rfl, Val.bool h⟩
  | _ => cases hc

/-! ### text -/
theorem Bin.addS {x y : Str} {Q : V → List AO → Prop} (h : Q (.str (x ++ y)) H) (hs : x.length + y.length ≤ sizeLine) : Bin W n H .Add (.str x) (.str y) Q := fun _ _ _ ⟨_, hx⟩ ⟨_, hy⟩ => by
  subst hx hy; exact .quiet fun _ _ _ _ _ => SB.add (fun _ _ => ⟨rfl, rfl, rfl, Val.str h⟩) hs
theorem InP.addS {x y : Str} {Q : V → List AO → Prop} (h : Q (.str (x ++ y)) H) (hs : x.length + y.length ≤ sizeLine) : InP W n H .Add (.str x) (.str y) Q := fun _ _ _ ⟨_, hx⟩ ⟨_, hy⟩ => by
  subst hx hy; exact .quiet fun _ _ _ _ _ => SB.iadd (fun _ _ => ⟨rfl, rfl, rfl, Val.str h⟩) hs
theorem Cmp.eqS {x y : Str} {Q : V → List AO → Prop} (h : Q (.bool (x.cps.toList == y.cps.toList)) H) : Cmp W n H .Eq (.str x) (.str y) Q := fun _ _ _ ⟨_, hx⟩ ⟨_, hy⟩ => by
  subst hx hy; exact .quiet fun _ _ _ _ _ => PySem.P.eq_str ⟨rfl, rfl, rfl, Val.bool h⟩
theorem Cmp.neS {x y : Str} {Q : V → List AO → Prop} (h : Q (.bool (x.cps.toList != y.cps.toList)) H) : Cmp W n H .NotEq (.str x) (.str y) Q := fun _ _ _ ⟨_, hx⟩ ⟨_, hy⟩ => by
  subst hx hy; exact .quiet fun _ _ _ _ _ => PySem.P.ne_str ⟨rfl, rfl, rfl, Val.bool h⟩
end
end Mine

-- FILE B5
open PySem PySem.W PyProof.Rows
set_option Elab.async false
set_option autoImplicit false
namespace Mine
section
variable {W : Wd} {n : Nat} {ae : AE} {H : List AO} {ρ : Rho}

/-! ### iterators that end -/
noncomputable def Stops (Q : Shared → Prop) : Value → Shared → Prop := fun e s' => s'.TypeIs e "StopIteration" ∧ Q s'
theorem wp_stop {M : Model} {A : Around} {α : Type} {X : α → Shared → Prop} {s : Shared} {Q : Shared → Prop} (hh : A.handled = none)
    (h : ∀ h', (∀ b o, s.heap.get? b = some o → h'.get? b = some o) → Q { s with heap := h' }) : wpAny M A (Builtin.SmallTypes.stopIteration : Sem α) X (Stops Q) s := by
  show wpAny _ _ (newExc (.type "StopIteration") [] >>= _) _ _ _
  refine wpAny_bind ?_
  simp only [newExc, newTuple]
  refine wpAny_bind (wpAny_newObj_type ?_ (by size_fits))
  refine wpAny_bind (m := firstArgMember _ _) (wpAny_of_eq (a := Value.none) (by first | rfl | (simp only [firstArgMember]; rfl)) ?_)
  refine wpAny_newObj_type ?_ (by size_fits)
  refine wpAny_bind (wpAny_handled ?_)
  rw [hh]
  refine wpAny_bind (wpAny_pure (wpAny_throw ?_))
  exact ⟨⟨_, Heap.get?_push_size _ rfl, rfl⟩, h _ fun b o e => Heap.get?_push_of_some _ (Heap.get?_push_of_some _ e)⟩
theorem pyNext_stop {prog : Program} {w : World} {A : Around} {s : Shared} {E : Value → Shared → Prop} {Q : Option Value → Shared → Prop} {it : Value} {T id : String} {b : Builtin} (hT : s.TypeIs it T) (slot : Slot T "__next__" id) (entry : entryFor table id = some b) (args : argsOk id ⟨[it], []⟩)
    (h : wpAny (model prog w) A.in1 (b ⟨[it], []⟩) (fun _ _ => False) (Stops (Q none)) s) : wpAny (model prog w) A (pyNext it) Q E s := by
  refine wpAny_bind (wpAny_attempt (wpAny_callSpecial?_slot (name := Str.ofString "__next__") hT slot (wpAny_call_entry slot hT entry (wpAny_mono h (fun _ _ x => x.elim) fun e s' x => ?_) args)))
  exact wpAny_bind (wpAny_isInstance (T := "StopIteration") (b := true) x.1 isSubtype_stop (wpAny_pure x.2))

theorem HS.lst {B : Bs} {h : Heap} (hs : HS B ρ H h) {i : Nat} {a : Addr} {vs : List V} (ha : ρ[i]? = some a) (hi : H[i]? = some (.lst vs)) : ∃ n xs, h.get? a = some { cls := .type "list", data := .seq xs n } ∧ VL ρ vs xs.toList := by
  obtain ⟨o, ho, ⟨n, xs, e, hv⟩, _⟩ := hs.ent i a _ ha hi
  subst e
  exact ⟨n, xs, ho, hv⟩
theorem HS.tup {B : Bs} {h : Heap} (hs : HS B ρ H h) {i : Nat} {a : Addr} {vs : List V} (ha : ρ[i]? = some a) (hi : H[i]? = some (.tup vs)) : ∃ n xs, h.get? a = some { cls := .type "tuple", data := .seq xs n } ∧ VL ρ vs xs.toList := by
  obtain ⟨o, ho, ⟨n, xs, e, hv⟩, _⟩ := hs.ent i a _ ha hi
  subst e
  exact ⟨n, xs, ho, hv⟩
theorem VL.sizeA {vs : List V} {xs : Array Value} (h : VL ρ vs xs.toList) : xs.size = vs.length := by have := h.length; simpa using this

noncomputable def lstIt (l i : Nat) : AO := .iter "list_iterator" [.ref l, .raw (.int i 0)]
theorem Nxt.listItem {j l i : Nat} {vs : List V} {v : V} {Q : Option V → List AO → Prop} (hj : H[j]? = some (lstIt l i)) (hl : H[l]? = some (.lst vs)) (hv : vs[i]? = some v) (h : Q (some v) (H.set j (lstIt l (i + 1)))) : Nxt W n H (.ref j) Q := fun ρ x ⟨a, ha, e⟩ A s r hs g => by
  subst e
  obtain ⟨o, ho, ⟨hc, ys, hd, hys⟩, _⟩ := hs.ent j a _ ha hj
  obtain ⟨y0, y1, hy, hys⟩ := hys.ex2
  obtain ⟨⟨b, hb, e0⟩, e1, _⟩ := hys
  have ey : ys = #[.ref b, .int i 0] := by rw [← Array.toArray_toList (xs := ys), hy, e0, e1]
  subst ey
  obtain ⟨m, xs, hx, hxs⟩ := hs.lst hb hl
  obtain ⟨z, hz, hzr⟩ := VL.get hxs hv
  refine wpAny_pyNext_list_item ⟨o, ho, hc, hd⟩ ⟨_, hx, rfl, m, rfl⟩ (x := z) (by simpa using hz) fun h' hit hsb => ?_
  obtain ⟨o', ho', hc', hd'⟩ := hit
  have hn : (lstIt l i).NoCode := rfl
  refine ⟨ρ, _, .set (s' := { s with heap := h' }) (o := lstIt l (i + 1)) hs ha hsb ho' ⟨hc', _, hd', ⟨b, hb, rfl⟩, rfl, trivial⟩ trivial (keepCode_of_set hsb ho (hn.not (ρ := ρ) ⟨hc, _, hd, ⟨b, hb, rfl⟩, rfl, trivial⟩)) rfl rfl, some v, hzr, h⟩
theorem Nxt.listEnd {j l i : Nat} {vs : List V} {Q : Option V → List AO → Prop} (hj : H[j]? = some (lstIt l i)) (hl : H[l]? = some (.lst vs)) (hv : vs.length ≤ i) (h : Q none (H.set j .junk)) : Nxt W n H (.ref j) Q := fun ρ x ⟨a, ha, e⟩ A s r hs g => by
  subst e
  obtain ⟨o, ho, ⟨hc, ys, hd, hys⟩, _⟩ := hs.ent j a _ ha hj
  obtain ⟨y0, y1, hy, hys⟩ := hys.ex2
  obtain ⟨⟨b, hb, e0⟩, e1, _⟩ := hys
  have ey : ys = #[.ref b, .int i 0] := by rw [← Array.toArray_toList (xs := ys), hy, e0, e1]
  subst ey
  obtain ⟨m, xs, hx, hxs⟩ := hs.lst hb hl
  have hz : xs[i]? = none := by simp [hxs.sizeA, hv]
  refine pyNext_stop ⟨o, ho, hc⟩ slot_listiter_next entry_listiter_next (args_listiter_next _) ?_
  show wpAny _ _ (field (.ref a) 0 >>= _) _ _ s
  refine wpAny_bind (wpAny_field ho hd (x := .ref b) rfl ?_)
  show wpAny _ _ (if (Value.ref b == Value.none) = true then _ else _) _ _ s
  refine wp_no (show ¬ ((Value.ref b == Value.none) = true) from Bool.false_ne_true) ?_
  show wpAny _ _ (field (.ref a) 1 >>= _) _ _ s
  refine wpAny_bind (wpAny_field ho hd (x := .int i 0) rfl ?_)
  show wpAny _ _ (seqItems? (.ref b) >>= _) _ _ s
  refine wpAny_bind (wpAny_seqItems hx rfl ?_)
  simp only [Int.toNat_natCast, hz]
  refine wpAny_bind (wpAny_rule (wpAny_bind (wpAny_setField ho hd (by simp) (wp_stop r.hd fun h' hk => ?_))))
  have hn : (lstIt l i).NoCode := rfl
  have e1 : s.heap.get? a = some o := ho
  have hf := Heap.get?_update_self (h := s.heap) (fun o => Obj.mapFields (fun vs => vs.setIfInBounds 0 .none) o) e1 (Obj.isFreed_of_fields (Obj.data_mapFields hd _))
  have p : Post W.B ρ s { s with heap := s.heap.update a (fun o => Obj.mapFields (fun vs => vs.setIfInBounds 0 .none) o) } ρ (H.set j .junk) :=
    .set (s' := { s with heap := s.heap.update a (fun o => Obj.mapFields (fun vs => vs.setIfInBounds 0 .none) o) }) (o := .junk) hs ha (.update ..) hf trivial trivial (keepCode_of_set (.update ..) ho (hn.not (ρ := ρ) ⟨hc, _, hd, ⟨b, hb, rfl⟩, rfl, trivial⟩)) rfl rfl
  exact ⟨ρ, _, p.trans (.grow (s' := { s with heap := h' }) p.hs hk rfl rfl), none, trivial, h⟩
theorem Ite.list {l : Nat} {vs : List V} {Q : V → List AO → Prop} (hl : H[l]? = some (.lst vs)) (h : Q (.ref H.length) (H ++ [lstIt l 0])) : Ite W n H (.ref l) Q := fun ρ x ⟨a, ha, e⟩ A s r hs g => by
  subst e
  obtain ⟨m, xs, hx, hxs⟩ := hs.lst ha hl
  refine wpAny_pyIter_list ⟨_, hx, rfl, m, rfl⟩ ⟨_, _, .push (t := s.toks) (o := lstIt l 0) hs rfl ⟨rfl, _, rfl, ⟨a, (Le.snoc ρ _).get ha, rfl⟩, rfl, trivial⟩ trivial, .ref H.length, ⟨_, by rw [← hs.len]; simp, rfl⟩, h⟩
theorem Ite.listIt {j l i : Nat} {Q : V → List AO → Prop} (hj : H[j]? = some (lstIt l i)) (h : Q (.ref j) H) : Ite W n H (.ref j) Q := fun ρ x ⟨a, ha, e⟩ A s r hs g => by
  subst e
  obtain ⟨o, ho, ⟨hc, ys, hd, hys⟩, _⟩ := hs.ent j a _ ha hj
  obtain ⟨y0, y1, hy, hys⟩ := hys.ex2
  obtain ⟨⟨b, hb, e0⟩, e1, _⟩ := hys
  have ey : ys = #[.ref b, .int i 0] := by rw [← Array.toArray_toList (xs := ys), hy, e0, e1]
  subst ey
  exact wpAny_pyIter_listiter ⟨o, ho, hc, hd⟩ ⟨ρ, H, .refl hs, .ref j, ⟨a, ha, rfl⟩, h⟩
end
end Mine

-- FILE B6
open PySem PySem.W PyProof.Rows
set_option Elab.async false
set_option autoImplicit false
namespace Mine
section
variable {W : Wd} {n : Nat} {ae : AE} {H : List AO} {ρ : Rho}

theorem HS.fields2 {B : Bs} {h : Heap} (hs : HS B ρ H h) {j : Nat} {a : Addr} {c : String} {v w : V} (ha : ρ[j]? = some a) (hj : H[j]? = some (.iter c [v, w])) :
    ∃ o x y, h.get? a = some o ∧ o.cls = .type c ∧ o.data = .fields #[x, y] ∧ v.Rel ρ x ∧ w.Rel ρ y := by
  obtain ⟨o, ho, ⟨hc, ys, hd, hys⟩, _⟩ := hs.ent j a _ ha hj
  obtain ⟨y0, y1, hy, hys⟩ := hys.ex2
  have ey : ys = #[y0, y1] := by rw [← Array.toArray_toList (xs := ys), hy]
  subst ey
  exact ⟨o, y0, y1, ho, hc, hd, hys.1, hys.2.1⟩

/-! ### range -/
noncomputable def rngIt (x left : Int) : AO := .flds "range_iterator" [.raw (rawInt x), .raw (rawInt left), .raw (rawInt 1)]
noncomputable def rng (k : Int) : AO := .flds "range" [.int 0, .int k, .int 1]
theorem HS.rngIt {B : Bs} {h : Heap} (hs : HS B ρ H h) {j : Nat} {a : Addr} {x l : Int} (ha : ρ[j]? = some a) (hj : H[j]? = some (rngIt x l)) : IsRangeIter h a x l 1 := by
  obtain ⟨o, ho, ⟨ys, hd, hys⟩, _⟩ := hs.ent j a _ ha hj
  obtain ⟨y0, y1, y2, hy, hys⟩ := hys.ex3
  obtain ⟨e0, e1, e2, _⟩ := hys
  have ey : ys = #[rawInt x, rawInt l, rawInt 1] := by rw [← Array.toArray_toList (xs := ys), hy, show y0 = _ from e0, show y1 = _ from e1, show y2 = _ from e2]
  subst ey hd
  exact ho
theorem Nxt.rngItem {j : Nat} {x l : Int} {Q : Option V → List AO → Prop} (hj : H[j]? = some (Mine.rngIt x l)) (hl : 0 < l) (h : Q (some (.int x)) (H.set j (Mine.rngIt (x + 1) (l - 1)))) : Nxt W n H (.ref j) Q := fun ρ _ ⟨a, ha, e⟩ A s r hs g => by
  subst e
  have hit := hs.rngIt ha hj
  refine wpAny_pyNext_range_item hit hl fun h' hit' hsb => ?_
  have hn : (Mine.rngIt x l).NoCode := rfl
  exact ⟨ρ, _, .set (s' := { s with heap := h', toks := s.toks + 1 }) (o := Mine.rngIt (x + 1) (l - 1)) hs ha hsb hit' ⟨_, rfl, rfl, rfl, rfl, trivial⟩ trivial
    (keepCode_of_set hsb hit (hn.not (ρ := ρ) ⟨_, rfl, rfl, rfl, rfl, trivial⟩)) rfl rfl, some (.int x), ⟨_, rfl⟩, h⟩
theorem Nxt.rngEnd {j : Nat} {x l : Int} {Q : Option V → List AO → Prop} (hj : H[j]? = some (Mine.rngIt x l)) (hl : l ≤ 0) (h : Q none H) : Nxt W n H (.ref j) Q := fun ρ _ ⟨a, ha, e⟩ A s r hs g => by
  subst e
  have hit := hs.rngIt ha hj
  refine pyNext_stop ⟨_, hit, rfl⟩ F.slot_range_iterator_next F.entry_range_iterator_next (F.args_range_iterator_next_1 _) ?_
  show wpAny _ _ (field (.ref a) 0 >>= _) _ _ s
  refine wpAny_bind (wpAny_field hit rfl (x := rawInt x) rfl ?_)
  show wpAny _ _ (field (.ref a) 1 >>= _) _ _ s
  refine wpAny_bind (wpAny_field hit rfl (x := rawInt l) rfl ?_)
  show wpAny _ _ (field (.ref a) 2 >>= _) _ _ s
  refine wpAny_bind (wpAny_field hit rfl (x := rawInt 1) rfl ?_)
  show wpAny _ _ (if l ≤ 0 then _ else _) _ _ s
  refine wp_yes hl ?_
  refine wpAny_bind (wpAny_rule ?_)
  refine wpAny_bind (wp_stop r.hd fun h' hk => ⟨ρ, H, .grow (s' := { s with heap := h' }) hs hk rfl rfl, none, trivial, h⟩)
theorem Ite.rng {j : Nat} {k : Int} {Q : V → List AO → Prop} (hj : H[j]? = some (rng k)) (h0 : 0 ≤ k) (h1 : k < 2 ^ 62) (h : Q (.ref H.length) (H ++ [Mine.rngIt 0 k])) : Ite W n H (.ref j) Q := fun ρ _ ⟨a, ha, e⟩ A s r hs g => by
  subst e
  obtain ⟨o, ho, ⟨ys, hd, hys⟩, _⟩ := hs.ent j a _ ha hj
  obtain ⟨y0, y1, y2, hy, hys⟩ := hys.ex3
  obtain ⟨⟨t0, e0⟩, ⟨t1, e1⟩, ⟨t2, e2⟩, _⟩ := hys
  have ey : ys = #[.int 0 t0, .int k t1, .int 1 t2] := by rw [← Array.toArray_toList (xs := ys), hy, e0, e1, e2]
  subst ey hd
  have hz : Builtin.Range.rangeSize 0 k 1 = k := by
    unfold Builtin.Range.rangeSize
    rw [if_pos (by decide)]
    split
    · rw [Int.ediv_one]; lia
    · lia
  refine wpAny_pyIter_range (a := 0) (b := k) (c := 1) ho ?_ ?_
  · unfold Builtin.Range.small
    rw [hz]
    unfold Builtin.Range.rangeFitsLong
    simp only [Bool.and_eq_true, decide_eq_true_eq]
    refine ⟨by lia, ?_⟩
    have h2 : decide (-2 ^ 63 ≤ k + (1 - 1)) = true := decide_eq_true (by lia)
    have h3 : decide (k + (1 - 1) < 2 ^ 63) = true := decide_eq_true (by lia)
    rw [if_pos (by decide), h2, h3]
    simp
  · rw [hz]
    exact ⟨_, _, .push (t := s.toks) (o := Mine.rngIt 0 k) hs rfl ⟨_, rfl, rfl, rfl, rfl, trivial⟩ trivial, .ref H.length, ⟨_, by rw [← hs.len]; simp, rfl⟩, h⟩
theorem Cl.rng {k : Int} {Q : V → List AO → Prop} (h : Q (.ref H.length) (H ++ [rng k])) : Cl W n H (.typ "range") [.int k] [] [] Q := fun ρ _ xs ys e hxs hys A s r hs g => by
  cases e
  obtain ⟨x, rfl, hxs⟩ := hxs.ex1
  obtain rfl := hys.ex0
  obtain ⟨⟨t, e⟩, _⟩ := hxs
  subst e
  exact call_range_1 ⟨_, _, .push (o := Mine.rng k) hs rfl ⟨_, rfl, ⟨_, rfl⟩, ⟨_, rfl⟩, ⟨_, rfl⟩, trivial⟩ trivial, .ref H.length, ⟨_, by rw [← hs.len]; simp, rfl⟩, h⟩

/-! ### the signs of a text -/
noncomputable def strIt (x : Str) (i : Nat) : AO := .iter "str_ascii_iterator" [.str x, .raw (.int i 0)]
theorem Ite.str {x : Str} {Q : V → List AO → Prop} (hx : x.cps.all (· < 128) = true) (h : Q (.ref H.length) (H ++ [strIt x 0])) : Ite W n H (.str x) Q := fun ρ _ ⟨t, e⟩ A s r hs g => by
  subst e
  exact wpAny_pyIter_ascii hx ⟨_, _, .push (t := s.toks) (o := strIt x 0) hs rfl ⟨rfl, _, rfl, ⟨_, rfl⟩, rfl, trivial⟩ trivial, .ref H.length, ⟨_, by rw [← hs.len]; simp, rfl⟩, h⟩
theorem Nxt.strItem {j i c : Nat} {x : Str} {Q : Option V → List AO → Prop} (hj : H[j]? = some (strIt x i)) (hx : x.cps[i]? = some c) (h : Q (some (.str ⟨#[c]⟩)) (H.set j (strIt x (i + 1)))) : Nxt W n H (.ref j) Q := fun ρ _ ⟨a, ha, e⟩ A s r hs g => by
  subst e
  obtain ⟨o, y, z, ho, hc, hd, ⟨t, e1⟩, e2⟩ := hs.fields2 ha hj
  subst e1
  have e2 : z = .int i 0 := e2
  subst e2
  refine wpAny_pyNext_ascii_item ⟨o, ho, hc, hd⟩ hx fun h' ⟨o', ho', hc', hd'⟩ hsb => ?_
  have hn : (strIt x i).NoCode := rfl
  exact ⟨ρ, _, .set (s' := { s with heap := h', toks := s.toks + 1 }) (o := strIt x (i + 1)) hs ha hsb ho' ⟨hc', _, hd', ⟨_, rfl⟩, rfl, trivial⟩ trivial
    (keepCode_of_set hsb ho (hn.not (ρ := ρ) ⟨hc, _, hd, ⟨_, rfl⟩, rfl, trivial⟩)) rfl rfl, some (.str ⟨#[c]⟩), ⟨_, rfl⟩, h⟩
theorem Nxt.strEnd {j i : Nat} {x : Str} {Q : Option V → List AO → Prop} (hj : H[j]? = some (strIt x i)) (hx : x.cps[i]? = none) (h : Q none (H.set j .junk)) : Nxt W n H (.ref j) Q := fun ρ _ ⟨a, ha, e⟩ A s r hs g => by
  subst e
  obtain ⟨o, y, z, ho, hc, hd, ⟨t, e1⟩, e2⟩ := hs.fields2 ha hj
  subst e1
  have e2 : z = .int i 0 := e2
  subst e2
  refine pyNext_stop ⟨o, ho, hc⟩ F.slot_str_ascii_iterator_next F.entry_str_ascii_iterator_next (F.args_str_ascii_iterator_next_1 _) ?_
  show wpAny _ _ (field (.ref a) 0 >>= _) _ _ s
  refine wpAny_bind (wpAny_field ho hd (x := .str x t) rfl ?_)
  show wpAny _ _ (field (.ref a) 1 >>= _) _ _ s
  refine wpAny_bind (wpAny_field ho hd (x := .int i 0) rfl ?_)
  simp only [Int.toNat_natCast, hx]
  have hn : (strIt x i).NoCode := rfl
  have main : ∀ (f : Obj → Obj), (f o).isFreed = false → Post W.B ρ s { s with heap := s.heap.update a f } ρ (H.set j .junk) := fun f hf =>
    .set (s' := { s with heap := s.heap.update a f }) (o := .junk) hs ha (.update ..) (Heap.get?_update_self _ ho hf) trivial trivial (keepCode_of_set (.update ..) ho (hn.not (ρ := ρ) ⟨hc, _, hd, ⟨_, rfl⟩, rfl, trivial⟩)) rfl rfl
  refine wpAny_bind (wpAny_rule (wpAny_bind (wpAny_setField ho hd (by simp) (wpAny_bind (wpAny_letGo (wp_stop r.hd fun h' hk => ?_))))))
  have p := main _ (Obj.isFreed_of_fields (Obj.data_mapFields hd (fun vs => vs.setIfInBounds 0 (.str "" t))))
  exact ⟨ρ, _, (main _ (Obj.isFreed_of_fields (Obj.data_mapFields hd _))).trans (.grow (s' := { s with heap := h' }) (main _ (Obj.isFreed_of_fields (Obj.data_mapFields hd _))).hs hk rfl rfl), none, trivial, h⟩

/-! ### a list backwards -/
noncomputable def revIt (l : Nat) (i : Int) : AO := .iter "list_reverseiterator" [.ref l, .raw (rawInt i)]
theorem Ite.rev {j l : Nat} {i : Int} {Q : V → List AO → Prop} (hj : H[j]? = some (revIt l i)) (h : Q (.ref j) H) : Ite W n H (.ref j) Q := fun ρ _ ⟨a, ha, e⟩ A s r hs g => by
  subst e
  obtain ⟨o, y, z, ho, hc, hd, ⟨b, hb, e1⟩, e2⟩ := hs.fields2 ha hj
  subst e1
  have e2 : z = rawInt i := e2
  subst e2
  exact wpAny_pyIter_revIter ⟨o, ho, hc, hd⟩ ⟨ρ, H, .refl hs, .ref j, ⟨a, ha, rfl⟩, h⟩
theorem Nxt.revItem {j l i : Nat} {vs : List V} {v : V} {Q : Option V → List AO → Prop} (hj : H[j]? = some (revIt l i)) (hl : H[l]? = some (.lst vs)) (hv : vs[i]? = some v) (h : Q (some v) (H.set j (revIt l ((i : Int) - 1)))) : Nxt W n H (.ref j) Q := fun ρ _ ⟨a, ha, e⟩ A s r hs g => by
  subst e
  obtain ⟨o, y, z, ho, hc, hd, ⟨b, hb, e1⟩, e2⟩ := hs.fields2 ha hj
  subst e1
  have e2 : z = rawInt i := e2
  subst e2
  obtain ⟨m, xs, hx, hxs⟩ := hs.lst hb hl
  obtain ⟨z, hz, hzr⟩ := VL.get hxs hv
  refine wpAny_pyNext_rev_item ⟨o, ho, hc, hd⟩ ⟨_, hx, rfl, m, rfl⟩ (x := z) (by simpa using hz) fun h' ⟨o', ho', hc', hd'⟩ hsb => ?_
  have hn : (revIt l i).NoCode := rfl
  exact ⟨ρ, _, .set (s' := { s with heap := h' }) (o := revIt l ((i : Int) - 1)) hs ha hsb ho' ⟨hc', _, hd', ⟨b, hb, rfl⟩, rfl, trivial⟩ trivial
    (keepCode_of_set hsb ho (hn.not (ρ := ρ) ⟨hc, _, hd, ⟨b, hb, rfl⟩, rfl, trivial⟩)) rfl rfl, some v, hzr, h⟩
theorem Nxt.revEnd {j l : Nat} {Q : Option V → List AO → Prop} (hj : H[j]? = some (revIt l (-1))) (h : Q none H) : Nxt W n H (.ref j) Q := fun ρ _ ⟨a, ha, e⟩ A s r hs g => by
  subst e
  obtain ⟨o, y, z, ho, hc, hd, ⟨b, hb, e1⟩, e2⟩ := hs.fields2 ha hj
  subst e1
  have e2 : z = rawInt (-1) := e2
  subst e2
  refine pyNext_stop ⟨o, ho, hc⟩ F.slot_lri_next F.entry_lri_next (F.args_lri_next_1 _) ?_
  refine wpAny_bind (wpAny_of_eq (a := (Value.ref a, [])) rfl ?_)
  try dsimp only
  refine wpAny_bind (wpAny_field ho hd (x := rawInt (-1)) rfl ?_)
  show wpAny _ _ (if (-1 : Int) < 0 then _ else _) _ _ s
  refine wp_yes (by decide) ?_
  refine wpAny_bind (wpAny_rule ?_)
  exact wpAny_bind (wp_stop r.hd fun h' hk => ⟨ρ, H, .grow (s' := { s with heap := h' }) hs hk rfl rfl, none, trivial, h⟩)
theorem Cl.reversed {l : Nat} {vs : List V} {Q : V → List AO → Prop} (hl : H[l]? = some (.lst vs)) (h : Q (.ref H.length) (H ++ [revIt l ((vs.length : Int) - 1)])) : Cl W n H (.typ "reversed") [.ref l] [] [] Q := fun ρ _ xs ys e hxs hys A s r hs g => by
  cases e
  obtain ⟨x, rfl, hxs⟩ := hxs.ex1
  obtain rfl := hys.ex0
  obtain ⟨⟨a, ha, e⟩, _⟩ := hxs
  subst e
  obtain ⟨m, xs, hx, hxs⟩ := hs.lst ha hl
  refine call_reversed_list ⟨_, hx, rfl, m, rfl⟩ ?_
  rw [hxs.sizeA]
  exact ⟨_, _, .push (t := s.toks) (o := revIt l ((vs.length : Int) - 1)) hs rfl ⟨rfl, _, rfl, ⟨a, (Le.snoc ρ _).get ha, rfl⟩, rfl, trivial⟩ trivial, .ref H.length, ⟨_, by rw [← hs.len]; simp, rfl⟩, h⟩

/-! ### who keeps what -/
theorem Kee.bi {nm : String} : Kee W n H (.bi nm) := fun ρ x e => by cases e; exact .pur ⟨rfl, rfl⟩
theorem Kee.typ {nm : String} : Kee W n H (.typ nm) := fun ρ x e => by cases e; exact .pur ⟨rfl, rfl⟩
theorem Kee.fn {f : V} {c : CInfo} (hf : Callable W H f c) : Kee W n H f := fun ρ x e A s r hs g => by
  obtain ⟨a, o, fd, e1, ho, hd, _⟩ := hf ρ x s.heap e hs
  subst e1
  refine wpAny_bind (wpAny_load ho ?_)
  rw [hd]
  exact wpAny_pure ⟨ρ, H, .refl hs, rfl, rfl⟩
end
end Mine

-- FILE B7
open PySem PySem.W PyProof.Rows
set_option Elab.async false
set_option autoImplicit false
set_option maxRecDepth 100000
namespace Mine
section
variable {W : Wd} {n : Nat} {ae : AE} {H : List AO} {ρ : Rho}

/-! ### methods of lists, texts and whole numbers -/
theorem Met.lst {l : Nat} {vs : List V} {name : Str} {id : String} {Q : V → List V → List AO → Prop} (hl : H[l]? = some (.lst vs)) (slot : Slot "list" name id) (hty : typeOf (.builtin id) = pure (.type "method_descriptor"))
    (h : Q (.bi id) [.ref l] H) : Met W n H (.ref l) name Q := fun ρ _ pl ⟨a, ha, e⟩ A s r hs g => by
  subst e
  obtain ⟨m, xs, hx, hxs⟩ := hs.lst ha hl
  exact getMethod_builtin (T := "list") ⟨_, hx, rfl⟩ F.plainAttrs_list slot hty (fun b e => by cases e; exact ⟨_, hx, rfl⟩) ⟨ρ, H, .refl hs, .bi id, [.ref l], rfl, ⟨⟨a, ha, rfl⟩, trivial⟩, h⟩
theorem Met.str {x : Str} {name : Str} {id : String} {Q : V → List V → List AO → Prop} (slot : Slot "str" name id) (hty : typeOf (.builtin id) = pure (.type "method_descriptor"))
    (h : Q (.bi id) [.str x] H) : Met W n H (.str x) name Q := fun ρ _ pl ⟨t, e⟩ A s r hs g => by
  subst e
  exact getMethod_builtin (T := "str") (typeIs_str s x t) F.plainAttrs_str slot hty (fun b e => by cases e) ⟨ρ, H, .refl hs, .bi id, [.str x], rfl, ⟨⟨t, rfl⟩, trivial⟩, h⟩
theorem Met.int {x : Int} {name : Str} {id : String} {Q : V → List V → List AO → Prop} (slot : Slot "int" name id) (hty : typeOf (.builtin id) = pure (.type "method_descriptor"))
    (h : Q (.bi id) [.int x] H) : Met W n H (.int x) name Q := fun ρ _ pl ⟨t, e⟩ A s r hs g => by
  subst e
  exact getMethod_builtin (T := "int") (typeIs_int s x t) F.plainAttrs_int slot hty (fun b e => by cases e) ⟨ρ, H, .refl hs, .bi id, [.int x], rfl, ⟨⟨t, rfl⟩, trivial⟩, h⟩

theorem sizeLine_val : sizeLine = 16777216 := by rw [sizeLine_eq]
theorem Post.lst {B : Bs} {s : Shared} (hs : HS B ρ H s.heap) {i : Nat} {a : Addr} {vs vs' : List V} {xs : Array Value} {m : Nat} {f : Array Value → Array Value} (ha : ρ[i]? = some a) (hx : s.heap.get? a = some { cls := .type "list", data := .seq xs m }) (hxs : VL ρ vs xs.toList)
    (hv : VL ρ vs' (f xs).toList) : Post B ρ s { s with heap := s.heap.update a (Obj.mapSeq f) } ρ (H.set i (.lst vs')) := by
  obtain ⟨m', hm⟩ := Obj.data_mapSeq (o := { cls := .type "list", data := .seq xs m }) rfl f
  refine .set (s' := { s with heap := s.heap.update a (Obj.mapSeq f) }) (o := .lst vs') hs ha (.update ..) (Heap.get?_update_self _ hx (Obj.isFreed_of_seq hm)) ?_ trivial
    (keepCode_of_set (.update ..) hx ((show (AO.lst vs).NoCode from trivial).not (ρ := ρ) ⟨m, xs, rfl, hxs⟩)) rfl rfl
  refine ⟨m', f xs, ?_, hv⟩
  have h1 : (Obj.mapSeq f { cls := .type "list", data := .seq xs m }).cls = .type "list" := Obj.cls_mapSeq ..
  simp only [Obj.mapSeq] at hm ⊢
  rw [← hm]
theorem Cl.append {l : Nat} {vs : List V} {v : V} {Q : V → List AO → Prop} (hl : H[l]? = some (.lst vs)) (hz : vs.length ≤ 1000000) (h : Q .none (H.set l (.lst (vs ++ [v])))) : Cl W n H (.bi "list.append") [.ref l, v] [] [] Q := fun ρ _ xs ys e hxs hys A s r hs g => by
  cases e
  obtain ⟨x, y, rfl, hxs⟩ := hxs.ex2
  obtain rfl := hys.ex0
  obtain ⟨⟨a, ha, e⟩, hy, _⟩ := hxs
  subst e
  obtain ⟨m, xs, hx, hxs⟩ := hs.lst ha hl
  refine call_meets F.slot_list_append (T := "list") ⟨_, hx, rfl⟩ F.entry_list_append (F.args_list_append_2 _ _) (AutoListH.list_append_list_val_0 a xs m y (by rw [hxs.sizeA, sizeLine_val]; lia)) ⟨hx, ?_⟩
  refine ⟨ρ, _, .lst hs ha hx hxs (vs' := vs ++ [v]) ?_, .none, rfl, h⟩
  simpa using hxs.append (ws := [v]) (ys := [y]) ⟨hy, trivial⟩
theorem VL.take {vs : List V} {xs : List Value} (h : VL ρ vs xs) : ∀ k, VL ρ (vs.take k) (xs.take k) := fun k => by
  induction vs generalizing xs k with
  | nil => induction xs using List.casesOn with | nil => rw [List.take_nil, List.take_nil]; trivial | cons => exact h.elim
  | cons v vs ih => induction xs using List.casesOn with
    | nil => exact h.elim
    | cons x xs => induction k using Nat.casesAuxOn with | zero => exact trivial | succ k => exact ⟨h.1, ih h.2 k⟩
theorem VL.drop {vs : List V} {xs : List Value} (h : VL ρ vs xs) : ∀ k, VL ρ (vs.drop k) (xs.drop k) := fun k => by
  induction vs generalizing xs k with
  | nil => induction xs using List.casesOn with | nil => rw [List.drop_nil, List.drop_nil]; trivial | cons => exact h.elim
  | cons v vs ih => induction xs using List.casesOn with
    | nil => exact h.elim
    | cons x xs => induction k using Nat.casesAuxOn with | zero => exact h | succ k => exact ih h.2 k
theorem Cl.insert {l k : Nat} {vs : List V} {v : V} {Q : V → List AO → Prop} (hl : H[l]? = some (.lst vs)) (hz : vs.length ≤ 1000000) (hk : k ≤ vs.length) (h : Q .none (H.set l (.lst (vs.take k ++ v :: vs.drop k)))) : Cl W n H (.bi "list.insert") [.ref l, .int k, v] [] [] Q := fun ρ _ xs ys e hxs hys A s r hs g => by
  cases e
  obtain ⟨x, z, y, rfl, hxs⟩ := hxs.ex3
  obtain rfl := hys.ex0
  obtain ⟨⟨a, ha, e⟩, ⟨t, e2⟩, hy, _⟩ := hxs
  subst e e2
  obtain ⟨m, xs, hx, hxs⟩ := hs.lst ha hl
  have hsz := hxs.sizeA
  obtain ⟨j, hj⟩ : ∃ j : Int, j = (k : Int) := ⟨_, rfl⟩
  rw [← hj]
  refine call_meets F.slot_list_insert (T := "list") ⟨_, hx, rfl⟩ F.entry_list_insert (F.args_list_insert_3 _ _ _) (AutoListH.list_insert_list_int_val_1 a xs m j t y ?_ (by rw [hsz, sizeLine_val]; lia)) ⟨hx, ?_⟩
  · unfold Builtin.List.listFitsIndex
    simp only [Bool.not_eq_true', Bool.and_eq_false_iff, decide_eq_false_iff_not]
    lia
  refine ⟨ρ, _, .lst hs ha hx hxs (vs' := vs.take k ++ v :: vs.drop k) ?_, .none, rfl, h⟩
  have e3 : (if j < 0 then (j + ((xs.size : Nat) : Int)).toNat else min j.toNat xs.size) = k := by
    rw [if_neg (by lia)]; lia
  dsimp only
  rw [e3]
  have e4 : ((xs.extract 0 k).push y ++ xs.extract k).toList = xs.toList.take k ++ y :: xs.toList.drop k := by
    simp
    rw [List.take_of_length_le (by simp)]
  rw [e4]
  exact (hxs.take k).append ⟨hy, hxs.drop k⟩
theorem Cl.pop0 {l : Nat} {vs : List V} {v : V} {Q : V → List AO → Prop} (hl : H[l]? = some (.lst (v :: vs))) (hz : vs.length ≤ 1000000) (h : Q v (H.set l (.lst vs))) : Cl W n H (.bi "list.pop") [.ref l, .int 0] [] [] Q := fun ρ _ xs ys e hxs hys A s r hs g => by
  cases e
  obtain ⟨x, z, rfl, hxs⟩ := hxs.ex2
  obtain rfl := hys.ex0
  obtain ⟨⟨a, ha, e⟩, ⟨t, e2⟩, _⟩ := hxs
  subst e e2
  obtain ⟨m, xs, hx, hxs⟩ := hs.lst ha hl
  match hy : xs.toList, hxs with
  | y :: ys, hxs =>
    have ey : xs = (y :: ys).toArray := by rw [← hy]
    subst ey
    have hsz := VL.length hxs
    simp only [List.length_cons] at hsz
    refine call_meets F.slot_list_pop (T := "list") ⟨_, hx, rfl⟩ F.entry_list_pop (F.args_list_pop_2 _ _) (MeetsSeq.list_pop_at a _ m 0 t 0 y (by decide) ?_ (by simp) (by simp; rw [sizeLine_val]; lia)) ⟨hx, ?_⟩
    · unfold seqIndex?
      simp
    refine ⟨ρ, _, .lst hs ha hx (vs := v :: vs) hxs (vs' := vs) ?_, v, hxs.1, h⟩
    simp
    exact hxs.2
theorem VL.rev {vs : List V} {xs : Array Value} (h : VL ρ vs xs.toList) : VL ρ vs.reverse xs.reverse.toList := by simpa using h.reverse
theorem Cl.reverse {l : Nat} {vs : List V} {Q : V → List AO → Prop} (hl : H[l]? = some (.lst vs)) (hz : vs.length ≤ 1000000) (h : Q .none (H.set l (.lst vs.reverse))) : Cl W n H (.bi "list.reverse") [.ref l] [] [] Q := fun ρ _ xs ys e hxs hys A s r hs g => by
  cases e
  obtain ⟨x, rfl, hxs⟩ := hxs.ex1
  obtain rfl := hys.ex0
  obtain ⟨⟨a, ha, e⟩, _⟩ := hxs
  subst e
  obtain ⟨m, xs, hx, hxs⟩ := hs.lst ha hl
  refine call_meets F.slot_list_reverse (T := "list") ⟨_, hx, rfl⟩ F.entry_list_reverse (F.args_list_reverse_1 _) (AutoListH.list_reverse_list_0 a xs m (by rw [hxs.sizeA, sizeLine_val]; lia)) ⟨hx, ?_⟩
  exact ⟨ρ, _, .lst hs ha hx hxs (vs' := vs.reverse) hxs.rev, .none, rfl, h⟩
theorem Cl.len {l : Nat} {vs : List V} {Q : V → List AO → Prop} (hl : H[l]? = some (.lst vs)) (hz : vs.length ≤ 1000000) (h : Q (.int vs.length) H) : Cl W n H (.bi "len") [.ref l] [] [] Q := fun ρ _ xs ys e hxs hys A s r hs g => by
  cases e
  obtain ⟨x, rfl, hxs⟩ := hxs.ex1
  obtain rfl := hys.ex0
  obtain ⟨⟨a, ha, e⟩, _⟩ := hxs
  subst e
  obtain ⟨m, xs, hx, hxs⟩ := hs.lst ha hl
  refine Calls.call_len_list ⟨_, hx, rfl, m, rfl⟩ (by rw [hxs.sizeA]; lia) ⟨ρ, H, .toks hs rfl rfl rfl, ?_⟩
  rw [hxs.sizeA]
  exact Val.int h
theorem Tru.lst {l : Nat} {vs : List V} {Q : Bool → List AO → Prop} (hl : H[l]? = some (.lst vs)) (hz : vs.length ≤ 1000000) (h : Q (!vs.isEmpty) H) : Tru W n H (.ref l) Q := fun ρ _ ⟨a, ha, e⟩ A s r hs g => by
  subst e
  obtain ⟨m, xs, hx, hxs⟩ := hs.lst ha hl
  refine wpAny_truthy_list ⟨_, hx, rfl, m, rfl⟩ (by rw [hxs.sizeA]; lia) ⟨ρ, H, .toks hs rfl rfl rfl, ?_⟩
  have : xs.isEmpty = vs.isEmpty := by
    have := hxs.sizeA
    induction vs using List.casesOn with
    | nil => simp at this; simp [this]
    | cons v vs =>
      simp at this
      simp [Array.isEmpty, this]
  rw [this]
  exact h
theorem Git.lst {l k : Nat} {vs : List V} {v : V} {Q : V → List AO → Prop} (hl : H[l]? = some (.lst vs)) (hv : vs[k]? = some v) (hk : k < 1000000) (h : Q v H) : Git W n H (.ref l) (.int k) Q := fun ρ _ _ ⟨a, ha, e⟩ ⟨t, e2⟩ A s r hs g => by
  subst e e2
  obtain ⟨m, xs, hx, hxs⟩ := hs.lst ha hl
  obtain ⟨z, hz, hzr⟩ := VL.get hxs hv
  exact wpAny_getItem_list ⟨_, hx, rfl, m, rfl⟩ (by lia) (by lia) (x := z) (by simpa using hz) ⟨ρ, H, .refl hs, v, hzr, h⟩
theorem Git.tup {l k : Nat} {vs : List V} {v : V} {Q : V → List AO → Prop} (hl : H[l]? = some (.tup vs)) (hv : vs[k]? = some v) (hk : k < 1000000) (h : Q v H) : Git W n H (.ref l) (.int k) Q := fun ρ _ _ ⟨a, ha, e⟩ ⟨t, e2⟩ A s r hs g => by
  subst e e2
  obtain ⟨m, xs, hx, hxs⟩ := hs.tup ha hl
  obtain ⟨z, hz, hzr⟩ := VL.get hxs hv
  have hlt : k < xs.size := by rw [hxs.sizeA]; exact (List.getElem?_eq_some_iff.mp hv).1
  refine getItem_meets (T := "tuple") ⟨_, hx, rfl⟩ (by decide) F.slot_tuple_getitem F.entry_tuple_getitem (F.args_tuple_getitem_2 _ _) (MeetsSeq.tuple_getitem_at a xs m k t k z (by lia) (by lia) ?_ (by simpa using hz)) ⟨hx, ρ, H, .refl hs, v, hzr, h⟩
  unfold seqIndex?
  have h0 : ¬ ((k : Int) < 0) := Int.not_lt.mpr (Int.natCast_nonneg k)
  simp [h0, hlt]
theorem GiP.lst {l : Nat} {vs : List V} (hl : H[l]? = some (.lst vs)) : GiP W n H (.ref l) := fun ρ _ ⟨a, ha, e⟩ A s r hs g => by
  subst e
  obtain ⟨m, xs, hx, hxs⟩ := hs.lst ha hl
  exact wpAny_bind (wpAny_specialOf (T := "list") ⟨_, hx, rfl⟩ slot_list_getitem.lookup (wpAny_pure ⟨ρ, H, .refl hs, rfl, rfl, rfl⟩))
theorem GiP.tup {l : Nat} {vs : List V} (hl : H[l]? = some (.tup vs)) : GiP W n H (.ref l) := fun ρ _ ⟨a, ha, e⟩ A s r hs g => by
  subst e
  obtain ⟨m, xs, hx, hxs⟩ := hs.tup ha hl
  exact wpAny_bind (wpAny_specialOf (T := "tuple") ⟨_, hx, rfl⟩ F.slot_tuple_getitem.lookup (wpAny_pure ⟨ρ, H, .refl hs, rfl, rfl, rfl⟩))
theorem GiP.str {x : Str} : GiP W n H (.str x) := fun ρ _ ⟨t, e⟩ A s r hs g => by
  subst e
  exact wpAny_bind (wpAny_specialOf (typeIs_str s x t) F.slot_str_getitem.lookup (wpAny_pure ⟨ρ, H, .refl hs, rfl, rfl, rfl⟩))
theorem VL.set {vs : List V} {xs : List Value} (h : VL ρ vs xs) {v : V} {x : Value} (hv : v.Rel ρ x) : ∀ k, VL ρ (vs.set k v) (xs.set k x) := fun k => by
  induction vs generalizing xs k with
  | nil => induction xs using List.casesOn with | nil => exact trivial | cons => exact h.elim
  | cons w vs ih => induction xs using List.casesOn with
    | nil => exact h.elim
    | cons y xs => induction k using Nat.casesAuxOn with | zero => exact ⟨hv, h.2⟩ | succ k => exact ⟨h.1, ih h.2 k⟩
theorem Sit.lst {l k : Nat} {vs : List V} {v : V} {Q : List AO → Prop} (hl : H[l]? = some (.lst vs)) (hk : k < vs.length) (hz : vs.length ≤ 1000000) (h : Q (H.set l (.lst (vs.set k v)))) : Sit W n H (.ref l) (.int k) v Q := fun ρ _ _ y ⟨a, ha, e⟩ ⟨t, e2⟩ hy A s r hs g => by
  subst e e2
  obtain ⟨m, xs, hx, hxs⟩ := hs.lst ha hl
  have hsz := hxs.sizeA
  have hT : s.TypeIs (.ref a) "list" := ⟨_, hx, rfl⟩
  have hj : k < xs.size := by lia
  obtain ⟨j, hjk⟩ : ∃ j : Int, j = (k : Int) := ⟨_, rfl⟩
  rw [← hjk]
  refine wpAny_holding ?_
  refine wpAny_bind (wpAny_sequenceKey hT (by decide) ?_)
  refine wpAny_bind (wpAny_callSpecial?_slot (name := Str.ofString "__setitem__") hT slot_list_setitem (wpAny_call_entry slot_list_setitem hT entry_list_setitem ?_ (args_list_setitem _ _ _)))
  show wpAny _ _ (Builtin.List.listSubscript? (.int j t) >>= _) _ _ s
  refine wpAny_bind (wpAny_listSubscript_int (fitsIndex_of (by lia) (by lia)) ?_)
  subst hjk
  show wpAny _ _ ((seqItemAt a k >>= fun r => pure (r.map (k, ·))) >>= _) _ _ s
  refine wpAny_bind (wpAny_bind (wpAny_seqItemAt hx rfl (wpAny_pure ?_)))
  rw [Array.getElem?_eq_getElem hj]
  show wpAny _ _ (setSeqItemAt a k y >>= _) _ _ s
  refine wpAny_bind (wpAny_setSeqItemAt hx rfl ?_)
  have p : Post W.B ρ s { s with heap := s.heap.update a (Obj.mapSeq (·.setIfInBounds k y)) } ρ (H.set l (.lst (vs.set k v))) := .lst hs ha hx hxs (by simpa using hxs.set hy k)
  first
    | exact wpAny_bind (wpAny_pure (wpAny_pure ⟨.none, rfl, wpAny_pure ⟨ρ, _, p, h⟩⟩))
    | exact wpAny_pure ⟨.none, rfl, wpAny_pure ⟨ρ, _, p, h⟩⟩
end
end Mine

-- FILE B8
open PySem PySem.W PyProof.Rows
set_option Elab.async false
set_option autoImplicit false
set_option maxRecDepth 100000
namespace Mine
section
variable {W : Wd} {n : Nat} {ae : AE} {H : List AO} {ρ : Rho}

/-! ### numbers -/
theorem Cl.max2 {a b : Int} {Q : V → List AO → Prop} (h : Q (.int (if b > a then b else a)) H) : Cl W n H (.bi "max") [.int a, .int b] [] [] Q := fun ρ _ xs ys e hxs hys A s r hs g => by
  cases e
  obtain ⟨x, y, rfl, hxs⟩ := hxs.ex2
  obtain rfl := hys.ex0
  obtain ⟨⟨t, e1⟩, ⟨u, e2⟩, _⟩ := hxs
  subst e1 e2
  refine max_two_ints r.hd fun h' tk hk => ⟨ρ, H, .grow (s' := { s with heap := h', toks := tk }) hs hk rfl rfl, .int (if b > a then b else a), ?_, h⟩
  by_cases c : b > a
  · simp only [if_pos c]; exact ⟨u, rfl⟩
  · simp only [if_neg c]; exact ⟨t, rfl⟩
theorem Cl.min2 {a b : Int} {Q : V → List AO → Prop} (h : Q (.int (if b < a then b else a)) H) : Cl W n H (.bi "min") [.int a, .int b] [] [] Q := fun ρ _ xs ys e hxs hys A s r hs g => by
  cases e
  obtain ⟨x, y, rfl, hxs⟩ := hxs.ex2
  obtain rfl := hys.ex0
  obtain ⟨⟨t, e1⟩, ⟨u, e2⟩, _⟩ := hxs
  subst e1 e2
  refine min_two_ints r.hd fun h' tk hk => ⟨ρ, H, .grow (s' := { s with heap := h', toks := tk }) hs hk rfl rfl, .int (if b < a then b else a), ?_, h⟩
  by_cases c : b < a
  · simp only [if_pos c]; exact ⟨u, rfl⟩
  · simp only [if_neg c]; exact ⟨t, rfl⟩
noncomputable def max3 (a b c : Int) : Int := if b > a then (if c > b then c else b) else (if c > a then c else a)
noncomputable def min3 (a b c : Int) : Int := if b < a then (if c < b then c else b) else (if c < a then c else a)
theorem Cl.max3 {a b c : Int} {Q : V → List AO → Prop} (h : Q (.int (Mine.max3 a b c)) H) : Cl W n H (.bi "max") [.int a, .int b, .int c] [] [] Q := fun ρ _ xs ys e hxs hys A s r hs g => by
  cases e
  obtain ⟨x, y, z, rfl, hxs⟩ := hxs.ex3
  obtain rfl := hys.ex0
  obtain ⟨⟨t, e1⟩, ⟨u, e2⟩, ⟨v, e3⟩, _⟩ := hxs
  subst e1 e2 e3
  refine max_three_ints r.hd fun h' tk hk => ⟨ρ, H, .grow (s' := { s with heap := h', toks := tk }) hs hk rfl rfl, .int (Mine.max3 a b c), ?_, h⟩
  unfold Mine.max3
  by_cases c1 : b > a
  · simp only [if_pos c1]
    by_cases c2 : c > b
    · simp only [if_pos c2]; exact ⟨v, rfl⟩
    · simp only [if_neg c2]; exact ⟨u, rfl⟩
  · simp only [if_neg c1]
    by_cases c2 : c > a
    · simp only [if_pos c2]; exact ⟨v, rfl⟩
    · simp only [if_neg c2]; exact ⟨t, rfl⟩
theorem Cl.min3 {a b c : Int} {Q : V → List AO → Prop} (h : Q (.int (Mine.min3 a b c)) H) : Cl W n H (.bi "min") [.int a, .int b, .int c] [] [] Q := fun ρ _ xs ys e hxs hys A s r hs g => by
  cases e
  obtain ⟨x, y, z, rfl, hxs⟩ := hxs.ex3
  obtain rfl := hys.ex0
  obtain ⟨⟨t, e1⟩, ⟨u, e2⟩, ⟨v, e3⟩, _⟩ := hxs
  subst e1 e2 e3
  refine min_three_ints r.hd fun h' tk hk => ⟨ρ, H, .grow (s' := { s with heap := h', toks := tk }) hs hk rfl rfl, .int (Mine.min3 a b c), ?_, h⟩
  unfold Mine.min3
  by_cases c1 : b < a
  · simp only [if_pos c1]
    by_cases c2 : c < b
    · simp only [if_pos c2]; exact ⟨v, rfl⟩
    · simp only [if_neg c2]; exact ⟨u, rfl⟩
  · simp only [if_neg c1]
    by_cases c2 : c < a
    · simp only [if_pos c2]; exact ⟨v, rfl⟩
    · simp only [if_neg c2]; exact ⟨t, rfl⟩
noncomputable def ltF (a b : UInt64) : Bool := Float64.cmp a b == some .lt
noncomputable def max3F (a b c : UInt64) : UInt64 := if ltF a b then (if ltF b c then c else b) else (if ltF a c then c else a)
noncomputable def min3F (a b c : UInt64) : UInt64 := if ltF b a then (if ltF c b then c else b) else (if ltF c a then c else a)
theorem best3 {x y z w : Value} {f : Nat → Nat → Bool} (hP : (#[x, y, z] : Array Value)[argBest f 2]? = some w) : w = bif f 1 0 then (bif f 2 1 then z else y) else (bif f 2 0 then z else x) := by
  have e : argBest f 2 = bif f 1 0 then (bif f 2 1 then 2 else 1) else (bif f 2 0 then 2 else 0) := by
    show (if f 2 (if f 1 0 = true then 1 else 0) = true then 2 else (if f 1 0 = true then 1 else 0)) = _
    cases f 1 0
    · show (if f 2 0 = true then 2 else 0) = bif f 2 0 then 2 else 0
      cases f 2 0 <;> rfl
    · show (if f 2 1 = true then 2 else 1) = bif f 2 1 then 2 else 1
      cases f 2 1 <;> rfl
  rw [e] at hP
  revert hP
  cases f 1 0 <;> dsimp only [cond]
  · cases f 2 0 <;> exact fun q => (Option.some.inj q).symm
  · cases f 2 1 <;> exact fun q => (Option.some.inj q).symm
theorem best_F {a b c : UInt64} {t u v : Tok} {w : Value} {p q r : Bool} (h : w = bif p then (bif q then .float c v else .float b u) else (bif r then .float c v else .float a t)) : ∃ t, w = .float (if p then (if q then c else b) else (if r then c else a)) t := by
  subst h
  induction p
  · induction r <;> exact ⟨_, rfl⟩
  · induction q <;> exact ⟨_, rfl⟩
theorem Cl.max3F {a b c : UInt64} {Q : V → List AO → Prop} (h : Q (.flt (Mine.max3F a b c)) H) : Cl W n H (.bi "max") [.flt a, .flt b, .flt c] [] [] Q := fun ρ _ xs ys e hxs hys A s r hs g => by
  cases e
  obtain ⟨x, y, z, rfl, hxs⟩ := hxs.ex3
  obtain rfl := hys.ex0
  obtain ⟨⟨t, e1⟩, ⟨u, e2⟩, ⟨v, e3⟩, _⟩ := hxs
  subst e1 e2 e3
  let vs : Array Value := #[.float a t, .float b u, .float c v]
  have hT : (s.heap.push { cls := .type "tuple", data := .seq vs }).IsTuple s.heap.objs.size vs := ⟨_, Heap.get?_push_size _ rfl, rfl, 0, rfl⟩
  refine call_max_three (wpAny_pyIter_tuple hT ?_)
  have hsz : (s.heap.push { cls := .type "tuple", data := .seq vs }).objs.size = s.heap.objs.size + 1 := Heap.size_push ..
  refine ⟨_, [_, s.heap.objs.size], [_], _, _, _, _, rfl, Walks.tuple (A := A.in1) r.hd _ s.heap.objs.size (by rw [hsz]; exact Nat.ne_of_lt (Nat.lt_succ_self _)) vs,
    ⟨⟨_, Heap.get?_push_size _ rfl, rfl, rfl⟩, hT.push _⟩, fun d hd => ?_, by simp [vs], PySem.Flt.cmpOf_gt vs (by intro w hw; simp [vs] at hw; rcases hw with rfl | rfl | rfl <;> exact .float ..), fun w h' tk hP hk => ?_⟩
  · show d < ((s.heap.push _).push _).objs.size
    rw [Heap.size_push, hsz]
    rcases List.mem_cons.mp hd with rfl | hd
    · rw [hsz]; exact Nat.lt_succ_self _
    · rcases List.mem_cons.mp hd with rfl | hd
      · exact Nat.lt_succ_of_lt (Nat.lt_succ_self _)
      · cases hd
  · have hold : ∀ d o, s.heap.get? d = some o → h'.get? d = some o := fun d o e => by
      refine hk d o (fun hm => ?_) (Heap.get?_push_of_some _ (Heap.get?_push_of_some _ e))
      rcases List.mem_cons.mp hm with e1 | hm
      · have := Heap.lt_size e; rw [e1, hsz] at this; exact Nat.lt_irrefl _ (Nat.lt_of_succ_lt this)
      · cases hm
    refine ⟨ρ, H, .grow (s' := { s with heap := h', toks := tk }) hs hold rfl rfl, .flt (Mine.max3F a b c), ?_, h⟩
    exact best_F (best3 hP)
theorem Cl.min3F {a b c : UInt64} {Q : V → List AO → Prop} (h : Q (.flt (Mine.min3F a b c)) H) : Cl W n H (.bi "min") [.flt a, .flt b, .flt c] [] [] Q := fun ρ _ xs ys e hxs hys A s r hs g => by
  cases e
  obtain ⟨x, y, z, rfl, hxs⟩ := hxs.ex3
  obtain rfl := hys.ex0
  obtain ⟨⟨t, e1⟩, ⟨u, e2⟩, ⟨v, e3⟩, _⟩ := hxs
  subst e1 e2 e3
  let vs : Array Value := #[.float a t, .float b u, .float c v]
  have hT : (s.heap.push { cls := .type "tuple", data := .seq vs }).IsTuple s.heap.objs.size vs := ⟨_, Heap.get?_push_size _ rfl, rfl, 0, rfl⟩
  refine call_min_three (wpAny_pyIter_tuple hT ?_)
  have hsz : (s.heap.push { cls := .type "tuple", data := .seq vs }).objs.size = s.heap.objs.size + 1 := Heap.size_push ..
  refine ⟨_, [_, s.heap.objs.size], [_], _, _, _, _, rfl, Walks.tuple (A := A.in1) r.hd _ s.heap.objs.size (by rw [hsz]; exact Nat.ne_of_lt (Nat.lt_succ_self _)) vs,
    ⟨⟨_, Heap.get?_push_size _ rfl, rfl, rfl⟩, hT.push _⟩, fun d hd => ?_, by simp [vs], PySem.Flt.cmpOf_lt vs (by intro w hw; simp [vs] at hw; rcases hw with rfl | rfl | rfl <;> exact .float ..), fun w h' tk hP hk => ?_⟩
  · show d < ((s.heap.push _).push _).objs.size
    rw [Heap.size_push, hsz]
    rcases List.mem_cons.mp hd with rfl | hd
    · rw [hsz]; exact Nat.lt_succ_self _
    · rcases List.mem_cons.mp hd with rfl | hd
      · exact Nat.lt_succ_of_lt (Nat.lt_succ_self _)
      · cases hd
  · have hold : ∀ d o, s.heap.get? d = some o → h'.get? d = some o := fun d o e => by
      refine hk d o (fun hm => ?_) (Heap.get?_push_of_some _ (Heap.get?_push_of_some _ e))
      rcases List.mem_cons.mp hm with e1 | hm
      · have := Heap.lt_size e; rw [e1, hsz] at this; exact Nat.lt_irrefl _ (Nat.lt_of_succ_lt this)
      · cases hm
    refine ⟨ρ, H, .grow (s' := { s with heap := h', toks := tk }) hs hold rfl rfl, .flt (Mine.min3F a b c), ?_, h⟩
    exact best_F (best3 hP)
theorem Cl.abs {a : Int} {Q : V → List AO → Prop} (h : Q (.int (if a < 0 then -a else a)) H) : Cl W n H (.bi "abs") [.int a] [] [] Q := fun ρ _ xs ys e hxs hys => by
  cases e
  obtain ⟨x, rfl, hxs⟩ := hxs.ex1
  obtain rfl := hys.ex0
  obtain ⟨⟨t, e1⟩, _⟩ := hxs
  subst e1
  exact .quiet fun A s r hs g => call_abs_int fun u tk => ⟨rfl, rfl, rfl, Val.int h⟩
theorem Cl.bitLength {a : Int} {Q : V → List AO → Prop} (h : Q (.int (Builtin.Int.intBits a)) H) : Cl W n H (.bi "int.bit_length") [.int a] [] [] Q := fun ρ _ xs ys e hxs hys => by
  cases e
  obtain ⟨x, rfl, hxs⟩ := hxs.ex1
  obtain rfl := hys.ex0
  obtain ⟨⟨t, e1⟩, _⟩ := hxs
  subst e1
  exact .quiet fun A s r hs g => call_int_bit_length ⟨rfl, rfl, rfl, Val.int h⟩
theorem Cl.intOfBool {b : Bool} {Q : V → List AO → Prop} (h : Q (.int (if b then 1 else 0)) H) : Cl W n H (.typ "int") [.bool b] [] [] Q := fun ρ _ xs ys e hxs hys => by
  cases e
  obtain ⟨x, rfl, hxs⟩ := hxs.ex1
  obtain rfl := hys.ex0
  obtain ⟨e1, _⟩ := hxs
  cases e1
  exact .quiet fun A s r hs g => call_int_bool ⟨rfl, rfl, rfl, Val.int h⟩
theorem Cl.intOfFlt {x : UInt64} {sg : Bool} {m : Nat} {e : Int} {Q : V → List AO → Prop} (hd : Float64.decode x = .fin sg m e) (h : Q (.int (Float64.truncOf sg m e)) H) : Cl W n H (.typ "int") [.flt x] [] [] Q := fun ρ _ xs ys e hxs hys => by
  cases e
  obtain ⟨x, rfl, hxs⟩ := hxs.ex1
  obtain rfl := hys.ex0
  obtain ⟨⟨t, e1⟩, _⟩ := hxs
  subst e1
  exact .quiet fun A s r hs g => call_int_float hd ⟨rfl, rfl, rfl, Val.int h⟩
theorem Cl.divmod {a b : Int} {Q : V → List AO → Prop} (hb : b ≠ 0) (hp : Builtin.divisionGoesByPylong a b = false) (h : Q (.ref H.length) (H ++ [.tup [.int (a.fdiv b), .int (a.fmod b)]])) : Cl W n H (.bi "divmod") [.int a, .int b] [] [] Q := fun ρ _ xs ys e hxs hys A s r hs g => by
  cases e
  obtain ⟨x, y, rfl, hxs⟩ := hxs.ex2
  obtain rfl := hys.ex0
  obtain ⟨⟨t, e1⟩, ⟨u, e2⟩, _⟩ := hxs
  subst e1 e2
  exact divmod_int hb ⟨_, _, .push (o := .tup [.int (a.fdiv b), .int (a.fmod b)]) hs rfl ⟨0, _, rfl, ⟨_, rfl⟩, ⟨_, rfl⟩, trivial⟩ trivial, .ref H.length, ⟨_, by rw [← hs.len]; simp, rfl⟩, h⟩ (.inl hp)

/-! ### text -/
theorem strs_values {l : List Str} : ∀ {xs : List Value}, VL ρ (l.map V.str) xs → ∃ ls : List (Str × Tok), xs = strValues ls ∧ ls.map (·.1) = l := by
  induction l with
  | nil => intro xs h; induction xs using List.casesOn with | nil => exact ⟨[], rfl, rfl⟩ | cons => exact h.elim
  | cons x l ih =>
    intro xs h
    induction xs using List.casesOn with
    | nil => exact h.elim
    | cons y xs =>
      obtain ⟨⟨t, e⟩, h2⟩ := h
      obtain ⟨ls, e1, e2⟩ := ih h2
      exact ⟨(x, t) :: ls, by rw [e, e1]; rfl, by simp [e2]⟩
theorem Cl.join {l : Nat} {x : Str} {ts : List Str} {Q : V → List AO → Prop} (hl : H[l]? = some (.lst (ts.map V.str))) (hok : JoinOk x ts = true) (h : Q (.str (Txt.join x ts)) H) : Cl W n H (.bi "str.join") [.str x, .ref l] [] [] Q := fun ρ _ xs ys e hxs hys A s r hs g => by
  cases e
  obtain ⟨z, y, rfl, hxs⟩ := hxs.ex2
  obtain rfl := hys.ex0
  obtain ⟨⟨t, e1⟩, ⟨a, ha, e2⟩, _⟩ := hxs
  subst e1 e2
  obtain ⟨m, xs, hx, hxs⟩ := hs.lst ha hl
  obtain ⟨ls, e1, e2⟩ := strs_values hxs
  have : xs = (strValues ls).toArray := by rw [← e1]
  subst this
  exact SC.join ⟨_, hx, rfl, m, rfl⟩ e2 hok fun t' k => ⟨ρ, H, .toks hs rfl rfl rfl, Val.str h⟩
theorem Git.str {x : Str} {k : Int} {c : Nat} {Q : V → List AO → Prop} (hr : fitsSsize k = true) (hc : Txt.charAt x k = some c) (h : Q (.str ⟨#[c]⟩) H) : Git W n H (.str x) (.int k) Q := fun ρ _ _ ⟨t, e1⟩ ⟨u, e2⟩ => by
  subst e1 e2
  refine .quiet fun A s r hs g => SB.getItem hr (by rw [hc]; rfl) ⟨rfl, rfl, rfl, ?_⟩
  unfold Txt.item
  rw [hc]
  exact Val.str h
theorem Cmp.inS {x y : Str} {Q : V → List AO → Prop} (h : Q (.bool (Txt.contains x y)) H) : Cmp W n H .In (.str y) (.str x) Q := fun ρ _ _ ⟨t, e1⟩ ⟨u, e2⟩ => by
  subst e1 e2
  exact .quiet fun A s r hs g => SB.contains ⟨rfl, rfl, rfl, Val.bool h⟩
theorem Cl.index {x y : Str} {i : Nat} {rest : List Nat} {Q : V → List AO → Prop} (ho : Builtin.Str.occurrences x y 0 x.length 1 = i :: rest) (h : Q (.int i) H) : Cl W n H (.bi "str.index") [.str x, .str y] [] [] Q := fun ρ _ xs ys e hxs hys => by
  cases e
  obtain ⟨z, y, rfl, hxs⟩ := hxs.ex2
  obtain rfl := hys.ex0
  obtain ⟨⟨t, e1⟩, ⟨u, e2⟩, _⟩ := hxs
  subst e1 e2
  exact .quiet fun A s r hs g => call_gives F.slot_str_index (typeIs_str _ _ _) F.entry_str_index (F.args_str_index_2 _ _) (gives_str_index _ _ _ _ i rest ho) (show (Made.int i).post _ _ from ⟨rfl, rfl, rfl, Val.int h⟩)
theorem Cl.count {x y : Str} {Q : V → List AO → Prop} (h : Q (.int (Txt.count x y)) H) : Cl W n H (.bi "str.count") [.str x, .str y] [] [] Q := fun ρ _ xs ys e hxs hys => by
  cases e
  obtain ⟨z, y, rfl, hxs⟩ := hxs.ex2
  obtain rfl := hys.ex0
  obtain ⟨⟨t, e1⟩, ⟨u, e2⟩, _⟩ := hxs
  subst e1 e2
  exact .quiet fun A s r hs g => call_gives F.slot_str_count (typeIs_str _ _ _) F.entry_str_count (F.args_str_count_2 _ _) (gives_str_count _ _ _ _) (show (Made.int _).post _ _ from ⟨rfl, rfl, rfl, Val.int h⟩)
end
end Mine

-- FILE B9
open PySem PySem.W PyProof.Rows
set_option Elab.async false
set_option autoImplicit false
set_option maxRecDepth 100000
namespace Mine
section
variable {W : Wd} {n : Nat} {ae : AE} {H : List AO} {ρ : Rho}

theorem ints_values {l : List Int} : ∀ {xs : List Value}, VL ρ (l.map V.int) xs → ∃ ls : List (Int × Tok), xs = ls.map (fun p => Value.int p.1 p.2) ∧ ls.map (·.1) = l := by
  induction l with
  | nil => intro xs h; induction xs using List.casesOn with | nil => exact ⟨[], rfl, rfl⟩ | cons => exact h.elim
  | cons x l ih =>
    intro xs h
    induction xs using List.casesOn with
    | nil => exact h.elim
    | cons y xs =>
      obtain ⟨⟨t, e⟩, h2⟩ := h
      obtain ⟨ls, e1, e2⟩ := ih h2
      exact ⟨(x, t) :: ls, by rw [e, e1]; rfl, by simp [e2]⟩
theorem preSum_list (ls : List (Int × Tok)) : preSum (numAt ls.toArray) ls.toArray.size = (ls.map (·.1)).sum := by
  have key : ∀ (k : Nat), k ≤ ls.length → preSum (numAt ls.toArray) k = ((ls.take k).map (·.1)).sum := by
    intro k
    induction k with
    | zero => intro _; simp [preSum]
    | succ k ih =>
      intro hk
      rw [preSum, ih (by lia)]
      have hk' : k < ls.length := by lia
      have : numAt ls.toArray k = (ls[k]).1 := by simp [numAt, hk']
      have h2 : ls.take (k + 1) = ls.take k ++ [ls[k]] := by rw [List.take_add_one, List.getElem?_eq_getElem hk']; rfl
      rw [this, h2, List.map_append, List.sum_append]
      simp
  have := key ls.length (Nat.le_refl _)
  simpa using this
theorem Cl.sum {l : Nat} {ns : List Int} {Q : V → List AO → Prop} (hl : H[l]? = some (.lst (ns.map V.int))) (h : Q (.int ns.sum) H) : Cl W n H (.bi "sum") [.ref l] [] [] Q := fun ρ _ xs ys e hxs hys A s r hs g => by
  cases e
  obtain ⟨x, rfl, hxs⟩ := hxs.ex1
  obtain rfl := hys.ex0
  obtain ⟨⟨a, ha, e⟩, _⟩ := hxs
  subst e
  obtain ⟨m, xs, hx, hxs⟩ := hs.lst ha hl
  obtain ⟨ls, e1, e2⟩ := ints_values hxs
  have ex : xs = intItems ls.toArray := by
    apply Array.toList_inj.mp
    rw [e1]; simp [intItems]
  refine sum_intListG r.hd (xs := ls.toArray) ⟨_, hx, rfl, m, by rw [ex]⟩ fun h' tk t' hk => ⟨ρ, H, .grow (s' := { s with heap := h', toks := tk }) hs hk rfl rfl, ?_⟩
  rw [preSum_list, e2]
  exact Val.int h
noncomputable def pickV (vs : List V) (lo hi st : Option Int) : List V := (sliceRange (sliceBounds lo hi st vs.length).1 (sliceBounds lo hi st vs.length).2.1 (sliceBounds lo hi st vs.length).2.2).filterMap (vs[·]?)
theorem VL.pick {vs : List V} {xs : Array Value} (h : VL ρ vs xs.toList) : ∀ (is : List Nat), VL ρ (is.filterMap (vs[·]?)) (is.filterMap (xs[·]?))
  | [] => trivial
  | i :: is => by
    have ih := VL.pick h is
    rw [List.filterMap_cons, List.filterMap_cons]
    cases hv : vs[i]? with
    | none =>
      have l1 := List.getElem?_eq_none_iff.mp hv
      have l2 := h.sizeA
      have : xs[i]? = none := by simp; lia
      rw [this]; exact ih
    | some v =>
      obtain ⟨y, hy, rel⟩ := VL.get h hv
      have : xs[i]? = some y := by simpa using hy
      rw [this]; exact ⟨rel, ih⟩
noncomputable def IsPartV : V → Option Int → Prop
  | .none, none => True
  | .int i, some j => i = j
  | _, _ => False
theorem IsPartV.part {v : V} {k : Option Int} {x : Value} (h : IsPartV v k) (r : v.Rel ρ x) : IsPart x k := by
  induction v <;> induction k <;> first | exact h.elim | skip
  · cases r; exact .none
  · obtain ⟨t, e⟩ := r; subst e; cases (show _ = _ from h); exact .int _ _
theorem Git.slice {l j : Nat} {vs : List V} {a b c : V} {lo hi st : Option Int} {Q : V → List AO → Prop} (hl : H[l]? = some (.lst vs)) (hj : H[j]? = some (.flds "slice" [a, b, c])) (ha : IsPartV a lo) (hb : IsPartV b hi) (hc : IsPartV c st) (h0 : st ≠ some 0) (hz : vs.length ≤ 1000000)
    (h : Q (.ref H.length) (H ++ [.lst (pickV vs lo hi st)])) : Git W n H (.ref l) (.ref j) Q := fun ρ _ _ ⟨la, hla, e⟩ ⟨ja, hja, e2⟩ A s r hs g => by
  subst e e2
  obtain ⟨m, xs, hx, hxs⟩ := hs.lst hla hl
  obtain ⟨o, ho, ⟨ys, hd, hys⟩, _⟩ := hs.ent j ja _ hja hj
  obtain ⟨y0, y1, y2, hy, hys⟩ := hys.ex3
  obtain ⟨e0, e1, e2, _⟩ := hys
  have ey : ys = #[y0, y1, y2] := by rw [← Array.toArray_toList (xs := ys), hy]
  subst ey hd
  refine wpAny_getItem_list_slice ⟨_, hx, rfl, m, rfl⟩ ⟨_, ho, rfl, rfl⟩ (ha.part e0) (hb.part e1) (hc.part e2) h0 ?_ (by rw [hxs.sizeA, sizeLine_val]; lia)
  refine ⟨_, _, .push (t := s.toks) (o := .lst (pickV vs lo hi st)) hs rfl ⟨0, _, rfl, ?_⟩ trivial, .ref H.length, ⟨_, by rw [← hs.len]; simp, rfl⟩, h⟩
  refine VL.mono (.snoc _ _) ?_
  unfold slicePick pickV
  rw [hxs.sizeA]
  exact hxs.pick _
theorem Bin.mulL {l : Nat} {vs : List V} {k : Nat} {Q : V → List AO → Prop} (hl : H[l]? = some (.lst vs)) (hz : vs.length * k ≤ 1000000) (hk : k ≤ 1000000) (h : Q (.ref H.length) (H ++ [.lst (List.replicate k vs).flatten])) : Bin W n H .Mult (.ref l) (.int k) Q := fun ρ _ _ ⟨a, ha, e⟩ ⟨t, e2⟩ A s r hs g => by
  subst e e2
  obtain ⟨m, xs, hx, hxs⟩ := hs.lst ha hl
  obtain ⟨j, hj⟩ : ∃ j : Int, j = (k : Int) := ⟨_, rfl⟩
  rw [← hj]
  refine wpAny_binaryOp_repeat_ref (T := "list") (U := "int") (by decide) ⟨_, hx, rfl⟩ (fun s' => typeIs_int s' j t) noFill_list_mul F.fills_int_mul F.slot_int_rmul repeat_list F.slot_int_index.lookup
    (call_meets F.slot_int_rmul (typeIs_int s j t) F.entry_int_rmul (F.args_int_rmul_2 _ _) (int___rmul___int_list j t a xs m)
      ⟨hx, rfl, ⟨_, hx, rfl⟩, call_meets F.slot_list_mul ⟨_, hx, rfl⟩ F.entry_list_mul (F.args_list_mul_2 _ _)
        (AutoListH.list___mul___list_int_3 a xs m j t (by simp [Builtin.List.listFitsIndex]; lia) (by rw [hxs.sizeA, hj]; simp; lia) (by rw [hxs.sizeA, hj]; simp [Builtin.List.listTooLong, sizeLine_val]; lia))
        ⟨hx, ?_⟩⟩)
  refine ⟨_, _, .push (t := s.toks) (o := .lst (List.replicate k vs).flatten) hs rfl ⟨0, _, rfl, ?_⟩ trivial, .ref H.length, ⟨_, by rw [← hs.len]; simp, rfl⟩, h⟩
  refine VL.mono (.snoc _ _) ?_
  have jk : j.toNat = k := by rw [hj]; simp
  rw [jk]
  have key : ∀ (k : Nat) (ws : List V) (acc : Array Value), VL ρ ws acc.toList → VL ρ (ws ++ (List.replicate k vs).flatten) (List.foldl (fun x1 x2 => x1 ++ x2) acc (List.replicate k xs)).toList := by
    intro k
    induction k with
    | zero => intro ws acc h; simpa using h
    | succ k ih =>
      intro ws acc h
      rw [List.replicate_succ, List.replicate_succ, List.foldl_cons, List.flatten_cons, ← List.append_assoc]
      exact ih _ _ (by simpa using h.append hxs)
  by_cases hem : xs.isEmpty = true
  · rw [if_pos hem]
    have : vs = [] := by
      have h1 := hxs.sizeA
      have h2 : xs.size = 0 := by simpa using hem
      exact List.eq_nil_of_length_eq_zero (by lia)
    subst this
    have : (List.replicate k ([] : List V)).flatten = [] := by simp
    rw [this]; trivial
  · rw [if_neg hem]
    exact key k [] #[] trivial
theorem Bin.addL {l b : Nat} {vs ws : List V} {Q : V → List AO → Prop} (hl : H[l]? = some (.lst vs)) (hb : H[b]? = some (.lst ws)) (hz : vs.length + ws.length ≤ 1000000) (h : Q (.ref H.length) (H ++ [.lst (vs ++ ws)])) : Bin W n H .Add (.ref l) (.ref b) Q := fun ρ _ _ ⟨a, ha, e⟩ ⟨c, hc, e2⟩ A s r hs g => by
  subst e e2
  obtain ⟨m, xs, hx, hxs⟩ := hs.lst ha hl
  obtain ⟨m2, ys, hy, hys⟩ := hs.lst hc hb
  refine concat_meets ⟨_, hx, rfl⟩ ⟨_, hy, rfl⟩ noFill_list_add seq_list_add F.slot_list_add F.entry_list_add (F.args_list_add_2 _ _) (list_addW a c xs ys m m2 Option.none Option.none #[] #[] (by rw [hxs.sizeA, hys.sizeA, sizeLine_val]; lia)) ⟨hx, hy, ?_⟩
  refine ⟨_, _, .push (t := s.toks) (o := .lst (vs ++ ws)) hs rfl ⟨0, _, rfl, ?_⟩ trivial, .ref H.length, ⟨_, by rw [← hs.len]; simp, rfl⟩, h⟩
  refine VL.mono (.snoc _ _) ?_
  simpa using hxs.append hys

/-- two values that are told equal -/
noncomputable def VEq (B : Bs) (H : List AO) (v w : V) : Prop := ∀ A (s : Shared) ρ x y, A.units < cLine → HS B ρ H s.heap → v.Rel ρ x → w.Rel ρ y → SeqAt.EqAt A s x y true
theorem VEq.int {B : Bs} {i : Int} : VEq B H (.int i) (.int i) := fun A s ρ x y _ _ ⟨t, e⟩ ⟨u, e2⟩ => by
  subst e e2
  have := SeqAt.EqAt.int_int (A := A) (s := s) i t i u
  rwa [beq_self_eq_true] at this
theorem VEq.str {B : Bs} {i : Str} : VEq B H (.str i) (.str i) := fun A s ρ x y _ _ ⟨t, e⟩ ⟨u, e2⟩ => by
  subst e e2
  have := SeqAt.EqAt.str_str (A := A) (s := s) i t i u
  rwa [beq_self_eq_true] at this
theorem VEq.tup {B : Bs} {i j : Nat} {ms : List Int} (hi : H[i]? = some (.tup (ms.map V.int))) (hj : H[j]? = some (.tup (ms.map V.int))) : VEq B H (.ref i) (.ref j) := fun A s ρ x y hu hs ⟨a, ha, e⟩ ⟨b, hb, e2⟩ => by
  subst e e2
  obtain ⟨m, xs, hx, hxs⟩ := hs.tup ha hi
  obtain ⟨m2, ys, hy, hys⟩ := hs.tup hb hj
  by_cases hne : a = b
  · subst hne; exact .same _
  · refine .of_refs hne ?_
    have e1 : xs.size = ys.size := by rw [hxs.sizeA, hys.sizeA]
    have := SeqAt.RcAt.tuples (A := A) (s := s) (e := fun _ => true) ⟨_, hx, rfl, m, rfl⟩ ⟨_, hy, rfl, m2, rfl⟩ hu (fun k h1 h2 => ?_)
    · have e3 : ((List.range (min xs.size ys.size)).all (fun _ => true) && xs.size == ys.size) = true := by simp [e1]
      rwa [e3] at this
    · have k1 : k < (ms.map V.int).length := by rw [← hxs.sizeA]; exact h1
      obtain ⟨z1, hz1, r1⟩ := VL.get hxs (List.getElem?_eq_getElem k1)
      obtain ⟨z2, hz2, r2⟩ := VL.get hys (List.getElem?_eq_getElem k1)
      have q1 : xs[k] = z1 := by
        have : xs[k]? = some z1 := by simpa using hz1
        rw [Array.getElem?_eq_getElem h1] at this; exact Option.some.inj this
      have q2 : ys[k] = z2 := by
        have : ys[k]? = some z2 := by simpa using hz2
        rw [Array.getElem?_eq_getElem h2] at this; exact Option.some.inj this
      rw [q1, q2]
      rw [List.getElem_map] at r1 r2
      obtain ⟨t1, r1⟩ := r1; obtain ⟨t2, r2⟩ := r2
      subst r1 r2
      have hq := SeqAt.EqAt.int_int (A := A.in1) (s := s) (ms[k]'(by simpa using k1)) t1 (ms[k]'(by simpa using k1)) t2
      rwa [beq_self_eq_true] at hq
theorem Cmp.neL {l b : Nat} {vs ws : List V} {Q : V → List AO → Prop} (hl : H[l]? = some (.lst vs)) (hb : H[b]? = some (.lst ws)) (hlen : vs.length = ws.length) (he : ∀ (k : Nat) (v w : V), vs[k]? = some v → ws[k]? = some w → VEq W.B H v w)
    (h : Q (.bool false) H) : Cmp W n H .NotEq (.ref l) (.ref b) Q := fun ρ x y ⟨a, ha, e⟩ ⟨c, hc, e2⟩ => by
  subst e e2
  refine .quiet fun A s r hs g => ?_
  obtain ⟨m, xs, hx, hxs⟩ := hs.lst ha hl
  obtain ⟨m2, ys, hy, hys⟩ := hs.lst hc hb
  have e1 : xs.size = ys.size := by rw [hxs.sizeA, hys.sizeA, hlen]
  have hu : A.units < cLine := by have := r.un; show A.units < 9900; lia
  have hu1 : A.in1.units < cLine := by have := r.un; show A.units + 1 < 9900; lia
  have key := SeqAt.RcNeAt.lists (A := A) (s := s) (e := fun _ => true) ⟨_, hx, rfl, m, rfl⟩ ⟨_, hy, rfl, m2, rfl⟩ e1 hu (fun k h1 h2 => ?_)
  · have e3 : (!(List.range xs.size).all (fun _ => true)) = false := by simp
    rw [e3] at key
    exact key _ _ _ _ ⟨rfl, rfl, rfl, Val.bool h⟩
  · have k1 : k < vs.length := by rw [← hxs.sizeA]; exact h1
    have k2 : k < ws.length := by rw [← hys.sizeA]; exact h2
    obtain ⟨z1, hz1, r1⟩ := VL.get hxs (List.getElem?_eq_getElem k1)
    obtain ⟨z2, hz2, r2⟩ := VL.get hys (List.getElem?_eq_getElem k2)
    have q1 : xs[k] = z1 := by
      have : xs[k]? = some z1 := by simpa using hz1
      rw [Array.getElem?_eq_getElem h1] at this; exact Option.some.inj this
    have q2 : ys[k] = z2 := by
      have : ys[k]? = some z2 := by simpa using hz2
      rw [Array.getElem?_eq_getElem h2] at this; exact Option.some.inj this
    rw [q1, q2]
    exact he k _ _ (List.getElem?_eq_getElem k1) (List.getElem?_eq_getElem k2) A.in1 s ρ _ _ hu1 hs r1 r2
theorem VEq.ofL {B : Bs} {vs ws : List V} (h : vs.length = ws.length ∧ ∀ p ∈ vs.zip ws, VEq B H p.1 p.2) : ∀ (k : Nat) (v w : V), vs[k]? = some v → ws[k]? = some w → VEq B H v w := fun k v w e1 e2 => by
  refine h.2 (v, w) (List.mem_of_getElem? (i := k) ?_)
  rw [List.getElem?_zip_eq_some]
  exact ⟨e1, e2⟩
theorem VEq.strs {B : Bs} {l : List Str} : ∀ (k : Nat) (v w : V), (l.map V.str)[k]? = some v → (l.map V.str)[k]? = some w → VEq B H v w := fun k v w e1 e2 => by
  rw [e1] at e2; cases e2
  rw [List.getElem?_map] at e1
  cases h : l[k]? with
  | none => rw [h] at e1; cases e1
  | some x => rw [h] at e1; cases e1; exact .str
theorem VEq.ints {B : Bs} {l : List Int} : ∀ (k : Nat) (v w : V), (l.map V.int)[k]? = some v → (l.map V.int)[k]? = some w → VEq B H v w := fun k v w e1 e2 => by
  rw [e1] at e2; cases e2
  rw [List.getElem?_map] at e1
  cases h : l[k]? with
  | none => rw [h] at e1; cases e1
  | some x => rw [h] at e1; cases e1; exact .int
end
end Mine

-- FILE B10
open PySem PySem.W PyProof.Rows
set_option Elab.async false
set_option autoImplicit false
set_option maxRecDepth 100000
namespace Mine
section
variable {W : Wd} {n : Nat} {ae : AE} {H : List AO} {ρ : Rho}

/-! ### objects of a class of the text -/
theorem Tri.nsSet {i : Nat} {a : Addr} {m : List (Str × V)} {x : Str} {v : V} {y : Value} {Q : Rho → List AO → Unit → Prop} (ha : ρ[i]? = some a) (hH : H[i]? = some (.ns m)) (hv : v.Rel ρ y) (h : Q ρ (H.set i (.ns (put x v m))) ()) : Tri W n ρ H (PySem.nsSet a x y) Q := by
  refine Tri.bindS (fun _ => True) (Tri.bindS (fun _ => True) (.ask ⟨rfl, rfl, trivial⟩) fun _ _ => .pur ⟨rfl, rfl, trivial⟩) fun hh _ => ?_
  refine Tri.bindS (fun k => ∃ t, k = .str x t) (.mkText fun t => ⟨rfl, rfl, t, rfl⟩) fun _ ⟨t, e3⟩ => ?_
  subst e3
  refine Tri.bindS (fun o => (AO.ns m).Is ρ o) (.loadPart ha hH fun o ho => ⟨rfl, rfl, ho⟩) fun o ho => ?_
  obtain ⟨es, ep, hd, hsk, _⟩ := id ho
  rw [hd]
  dsimp only
  rw [aRefKeyMayBeTheName_eq, aRefKeyMayBeTheNameByArray, noRef hsk, Bool.and_false]
  exact .updatePart ha hH (fun o' ho' => putName_is ho' hv) h

theorem find_toList {es : Array DictEntry} {x : Str} : (es.toList.find? (fun e => e.key.isStr x)).map (·.val) = nsFind es x := by
  obtain ⟨l⟩ := es
  simp [nsFind, findBy]
theorem lookIn_ns {o : Obj} {es : Array DictEntry} {ep : Nat} {x : Str} (hd : o.data = .dict es ep) (hk : StrKeys es) : lookIn x o = some (nsFind es x) := by
  unfold lookIn
  rw [hd]
  dsimp only
  have h1 := find_toList (es := es) (x := x)
  cases h : es.toList.find? (fun e => e.key.isStr x) with
  | some e => rw [h] at h1; simp only [Option.map_some] at h1; rw [← h1]
  | none =>
    rw [h] at h1
    simp only [Option.map_none] at h1
    rw [← h1]
    have : es.toList.any (fun e => e.refKey) = false := by rw [Array.any_toList]; exact noRef hk
    simp only [this, Bool.false_eq_true, if_false]

theorem HS.inst {B : Bs} {h : Heap} (hs : HS B ρ H h) {i d : Nat} {a : Addr} {C : Addr} {m : List (Str × V)} (ha : ρ[i]? = some a) (hi : H[i]? = some (.inst C d)) (hd : H[d]? = some (.ns m)) :
    ∃ ox dx od es ep, h.get? a = some ox ∧ ρ[d]? = some dx ∧ h.get? dx = some od ∧ InstAt h a ox C (some od) ∧ ox.dict = some dx ∧ od.data = .dict es ep ∧ StrKeys es ∧ ∀ x, OptRel ρ (m.lookup x) (nsFind es x) := by
  obtain ⟨ox, hox, ⟨dx, sl, hdx, e⟩, _⟩ := hs.ent i a _ ha hi
  obtain ⟨od, hod, ⟨es, ep, h1, h2, _, h3⟩, _⟩ := hs.ent d dx _ hdx hd
  subst e
  exact ⟨_, dx, od, es, ep, hox, hdx, hod, ⟨hox, rfl, rfl, hod⟩, rfl, h1, h2, h3⟩

noncomputable def V.plain : V → Bool
  | .bi _ | .raw _ | .bad => false
  | _ => true
theorem V.handed {v : V} (h : v.plain = true) {x : Value} (r : v.Rel ρ x) : handedIn x = true := by
  induction v <;> first | cases h | skip
  all_goals first
    | (obtain ⟨t, e⟩ := r; subst e; rfl)
    | (obtain ⟨t, _, e⟩ := r; subst e; rfl)
    | (cases r; rfl)

structure ClsOk (K : Frag) (C : Addr) : Prop where
  ga : findIn K (.ref C) "__getattribute__" = some (some (.builtin "object.__getattribute__"))
  gt : findIn K (.ref C) "__getattr__" = some none
  sa : findIn K (.ref C) "__setattr__" = some (some (.builtin "object.__setattr__"))
  dct : ∃ cd, clsIn K C = some cd ∧ cd.hasDict = true
  over : plainOver K C = true
theorem Gat.inst {K : Frag} {i d : Nat} {C : Addr} {m : List (Str × V)} {x : Str} {v : V} {Q : V → List AO → Prop} (X : K.In W.B.heap) (hC : ClsOk K C) (hi : H[i]? = some (.inst C d)) (hd : H[d]? = some (.ns m)) (hx : m.lookup x = some v)
    (hn : findIn K (.ref C) x = some none) (hp : v.plain = true) (h : Q v H) : Gat W n H (.ref i) x Q := fun ρ _ ⟨a, ha, e⟩ => by
  subst e
  refine .quiet fun A s r hs g => ?_
  obtain ⟨ox, dx, od, es, ep, hox, hdx, hod, I, hdd, h1, h2, h3⟩ := hs.inst ha hi hd
  have hx3 := h3 x
  rw [hx] at hx3
  cases hf : nsFind es x with
  | none => rw [hf] at hx3; exact hx3.elim
  | some y =>
    rw [hf] at hx3
    obtain ⟨cd, hc, hdict⟩ := hC.dct
    have hfo : findObj K C (some od) x = some (.value y) := by
      unfold findObj
      rw [hc, hn]
      dsimp only [Option.bind_some]
      unfold PySem.W.ownOf
      rw [hdict, if_pos rfl]
      dsimp only
      rw [lookIn_ns h1 h2, hf]
      rfl
    exact get_value (X.keeps hs.keep) I hC.ga hfo (V.handed hp hx3) ⟨rfl, rfl, rfl, v, hx3, h⟩
theorem Met.inst {K : Frag} {i d : Nat} {C f : Addr} {m : List (Str × V)} {x : Str} {Q : V → List V → List AO → Prop} (X : K.In W.B.heap) (hC : ClsOk K C) (hi : H[i]? = some (.inst C d)) (hd : H[d]? = some (.ns m)) (hx : m.lookup x = Option.none)
    (hn : findIn K (.ref C) x = some (some (.ref f))) (hf : typeIn K (.ref f) = some (.type "function")) (h : Q (.gref f) [.ref i] H) : Met W n H (.ref i) x Q := fun ρ _ pl ⟨a, ha, e⟩ => by
  subst e
  refine .quiet fun A s r hs g => ?_
  obtain ⟨ox, dx, od, es, ep, hox, hdx, hod, I, hdd, h1, h2, h3⟩ := hs.inst ha hi hd
  have hx3 := h3 x
  rw [hx] at hx3
  have hnone : nsFind es x = Option.none := by
    cases hf : nsFind es x with
    | none => rfl
    | some y => rw [hf] at hx3; exact hx3.elim
  refine method_fn (X.keeps hs.keep) I hC.ga hC.gt hn hf ?_ ⟨rfl, rfl, rfl, .gref f, [.ref i], rfl, ⟨⟨a, ha, rfl⟩, trivial⟩, h⟩
  unfold shadowIn
  dsimp only
  rw [lookIn_ns h1 h2, hnone]
  rfl
theorem Sat.inst {K : Frag} {i d : Nat} {C : Addr} {m : List (Str × V)} {x : Str} {v : V} {Q : List AO → Prop} (X : K.In W.B.heap) (hC : ClsOk K C) (hi : H[i]? = some (.inst C d)) (hd : H[d]? = some (.ns m))
    (ht : takerIn K C x = some Option.none) (hz : (put x v m).length ≤ 1000) (h : Q (H.set d (.ns (put x v m)))) : Sat W (n + 1) H (.ref i) x v Q := fun ρ _ y ⟨a, ha, e⟩ hv A s r hs g => by
  subst e
  obtain ⟨ox, dx, od, es, ep, hox, hdx, hod, I, hdd, h1, h2, h3⟩ := hs.inst ha hi hd
  have X' := X.keeps hs.keep
  refine set_plain X' I hC.sa ?_
  refine osa_open (s := { s with toks := s.toks + 1 }) X' I hC.over ht fun b => ?_
  dsimp only
  obtain ⟨cd, hc, hdict⟩ := hC.dct
  obtain ⟨hx, hcl, hn, -⟩ := I
  obtain ⟨oc, odi, oda, osl⟩ := ox
  dsimp only at hcl hdd
  subst hcl hdd
  refine wpAny_bind (wpAny_pure (wpAny_bind (wpAny_bind (wpAny_loadPart hx (wpAny_bind (looks_clsIn X' hc _ _ _ _ (fun _ _ e => e) ?_))))))
  rw [hdict]
  refine wpAny_pure (a := some dx) ?_
  have t : Tri W 0 ρ H (PySem.nsSet dx x y) (fun ρ' H' _ => ρ' = ρ ∧ H' = H.set d (.ns (put x v m))) := .nsSet hdx hd hv ⟨rfl, rfl⟩
  refine wpAny_bind (wpAny_pure (wpAny_bind ?_))
  refine wpAny_mono (t A.in1 { s with toks := s.toks + 1 } ⟨r.hd, by have := r.dp; show A.depth + 3 * 0 < 980; lia, by have := r.un; show A.units + 1 + 10 * 0 < 9800; lia⟩ hs g) (fun _ s' ⟨ρ', H', p, e1, e2⟩ => ?_) fun _ _ e => e.elim
  rw [e1, e2] at p
  have hl : d < H.length := by rw [← hs.len]; exact (List.getElem?_eq_some_iff.mp hdx).1
  obtain ⟨o', ho', ⟨es', ep', hd', _, hz', _⟩, _⟩ := p.hs.ent d dx (.ns (put x v m)) hdx (by rw [List.getElem?_set_self hl])
  refine wpAny_bind (wpAny_lookBehind ho' (by rw [hd']; exact pastItsLine_dict (by rw [sizeLine_eq]; lia)) (wpAny_pure ?_))
  have p0 : Post W.B ρ s { s with toks := s.toks + 1 } ρ H := .toks hs rfl rfl rfl
  exact ⟨_, _, p0.trans p, h⟩
end
end Mine

-- FILE B11
open PySem PySem.W PyProof.Rows
set_option Elab.async false
set_option autoImplicit false
set_option maxRecDepth 100000
namespace Mine
section
variable {W : Wd} {n : Nat} {ae : AE} {H : List AO} {ρ : Rho}

theorem Kee.cls {K : Frag} {C : Addr} (X : K.In W.B.heap) (hm : makesIn K C = true) : Kee W n H (.gref C) := fun ρ x e A s r hs g => by
  cases e
  have Y := makes_of (M := W.M) (X.keeps hs.keep) hm
  obtain ⟨oc, od, cd, sl, hC, _⟩ := Y.obj
  refine wpAny_bind (wpAny_load hC ?_)
  exact wpAny_bind (Y.call _ _ _ _ (fun _ _ e => e) (wpAny_pure ⟨ρ, H, .refl hs, rfl, rfl⟩))
/-- a class of the text is called -/
theorem Cl.cls {K : Frag} {C fI : Addr} {as kv : List V} {kn : List Str} {Q : V → List AO → Prop} (X : K.In W.B.heap) (hm : makesIn K C = true) (hi : findIn K (.ref C) "__init__" = some (some (.ref fI))) (hf : typeIn K (.ref fI) = some (.type "function"))
    (h : ClC W n (H ++ [.ns []] ++ [.inst C H.length]) (.gref fI) (.ref (H.length + 1) :: as) kn kv fun v H' => v = .none ∧ Q (.ref (H.length + 1)) H') : Cl W (n + 1) H (.gref C) as kn kv Q := fun ρ x xs ys e hxs hys => by
  cases e
  refine .call fun A s r hs g => ?_
  have X' := X.keeps hs.keep
  have hl := hs.len
  obtain ⟨hh, gg, d, t, os⟩ := s
  refine make_core (makes_of X' hm) (looks_findIn X' hi) (fun self => bind_fn X' self hf) (.inl rfl) ?_
  have p1 : Post W.B ρ ⟨hh, gg, d, t, os⟩ ⟨hh.push emptyDict, gg, d, t, os⟩ (ρ ++ [hh.objs.size]) (H ++ [.ns []]) := .push (t := t) (o := .ns []) hs rfl ⟨#[], 0, rfl, fun _ he => by simp at he, Nat.le_refl _, fun x => trivial⟩ trivial
  have hsz : (hh.push emptyDict).objs.size = hh.objs.size + 1 := Heap.size_push ..
  have p2 : Post W.B (ρ ++ [hh.objs.size]) ⟨hh.push emptyDict, gg, d, t, os⟩ ⟨(hh.push emptyDict).push (instObj C hh.objs.size), gg, d, t, os⟩ (ρ ++ [hh.objs.size] ++ [hh.objs.size + 1]) (H ++ [.ns []] ++ [.inst C H.length]) := by
    have := Post.push (t := t) (o := .inst C H.length) (x := instObj C hh.objs.size) p1.hs rfl ⟨hh.objs.size, #[], by rw [← hl]; simp, rfl⟩ trivial
    rwa [show (hh.push emptyDict).objs.size = hh.objs.size + 1 from hsz] at this
  have p := p1.trans p2
  have hx : (ρ ++ [hh.objs.size] ++ [hh.objs.size + 1])[H.length + 1]? = some (hh.objs.size + 1) := by rw [← hl]; simp
  have hr : Room (A.under (.builtin "type.__call__" ⟨.ref C :: xs, kn.zip ys⟩)) n := r.under (Nat.le_of_ble_eq_true rfl) (Nat.le_of_ble_eq_true rfl)
  refine codeAny_mono (h _ (.ref fI) (.ref (hh.objs.size + 1) :: xs) ys rfl ⟨⟨_, hx, rfl⟩, hxs.mono p.le⟩ (hys.mono p.le) _ _ hr p.hs g) fun res s' hres => ?_
  induction res with
  | error e => exact hres
  | ok f =>
    obtain ⟨ρ', H', p3, v, e1, w, hw, e2, q⟩ := hres
    subst e1 e2
    cases hw
    exact ⟨rfl, ρ', H', p.trans p3, _, rfl, .ref (H.length + 1), ⟨_, p3.le.get hx, rfl⟩, q⟩

/-! ### a method kept as an object -/
noncomputable def meth (f : Addr) (i : Nat) : AO := .flds "method" [.gref f, .ref i]
theorem Gat.meth {K : Frag} {i d : Nat} {C f : Addr} {m : List (Str × V)} {x : Str} {Q : V → List AO → Prop} (X : K.In W.B.heap) (hC : ClsOk K C) (hi : H[i]? = some (.inst C d)) (hd : H[d]? = some (.ns m)) (hx : m.lookup x = Option.none)
    (hn : findIn K (.ref C) x = some (some (.ref f))) (hf : typeIn K (.ref f) = some (.type "function")) (hg : specialIn K (.ref f) "__get__" = some (some (.builtin "function.__get__"))) (ht : takesIn K (.ref f) = some false) (hcp : copiedNames.contains x = false)
    (h : Q (.ref H.length) (H ++ [Mine.meth f i])) : Gat W n H (.ref i) x Q := fun ρ _ ⟨a, ha, e⟩ A s r hs g => by
  subst e
  obtain ⟨ox, dx, od, es, ep, hox, hdx, hod, I, hdd, h1, h2, h3⟩ := hs.inst ha hi hd
  have hx3 := h3 x
  rw [hx] at hx3
  have hnone : nsFind es x = Option.none := by
    cases hf : nsFind es x with
    | none => rfl
    | some y => rw [hf] at hx3; exact hx3.elim
  obtain ⟨cd, hc, hdict⟩ := hC.dct
  have hfo : findObj K C (some od) x = some (.bind (.builtin "function.__get__") (.ref f)) := by
    unfold findObj
    rw [hc, hn]
    dsimp only [Option.bind_some]
    rw [hg]
    dsimp only [Option.bind_some]
    rw [ht]
    dsimp only [Option.bind_some]
    unfold PySem.W.ownOf
    rw [hdict, if_pos rfl]
    dsimp only
    rw [lookIn_ns h1 h2, hnone]
    dsimp only [Option.bind_some]
    rw [hcp]
    rfl
  have X' := X.keeps hs.keep
  refine get_bind X' I hC.ga hfo hC.gt ?_
  refine wpAny_call (fn_get (s := { s with toks := s.toks + 1 }) X' hf (handed_on rfl ?_))
  exact ⟨_, _, .push (t := s.toks + 1) (o := Mine.meth f i) hs rfl ⟨_, rfl, rfl, ⟨a, (Le.snoc ρ _).get ha, rfl⟩, trivial⟩ trivial, .ref H.length, ⟨_, by rw [← hs.len]; simp, rfl⟩, h⟩
theorem HS.meth {B : Bs} {h : Heap} (hs : HS B ρ H h) {j i : Nat} {b f : Addr} (hb : ρ[j]? = some b) (hj : H[j]? = some (Mine.meth f i)) : ∃ a, ρ[i]? = some a ∧ h.get? b = some (methodObj (.ref f) (.ref a)) := by
  obtain ⟨o, ho, ⟨ys, hd, hys⟩, _⟩ := hs.ent j b _ hb hj
  obtain ⟨y0, y1, hy, hys⟩ := hys.ex2
  obtain ⟨e0, ⟨a, ha, e1⟩, _⟩ := hys
  have e0 : y0 = .ref f := e0
  have ey : ys = #[.ref f, .ref a] := by rw [← Array.toArray_toList (xs := ys), hy, e0, e1]
  subst ey hd
  exact ⟨a, ha, ho⟩
theorem ClC.meth {j i : Nat} {f : Addr} {as kv : List V} {kn : List Str} {Q : V → List AO → Prop} (hj : H[j]? = some (Mine.meth f i)) (h : ClC W n H (.gref f) (.ref i :: as) kn kv Q) : ClC W (n + 1) H (.ref j) as kn kv Q := fun ρ x xs ys ⟨b, hb, e⟩ hxs hys => by
  subst e
  refine CTri.step (Nat.le_of_ble_eq_true rfl) (Nat.le_of_ble_eq_true rfl) ?_
  intro A s r hs g
  obtain ⟨a, ha, ho⟩ := hs.meth hb hj
  show wpAny _ _ (callAny (.ref b) _) _ _ _
  simp only [callAny]
  refine wpAny_bind (wpAny_load ho ?_)
  dsimp only
  refine wp_yes (by decide) ?_
  refine wpAny_pure ⟨ρ, H, .refl hs, rfl, ?_⟩
  exact fun A s r hs g => h ρ (.ref f) (.ref a :: xs) ys rfl ⟨⟨a, ha, rfl⟩, hxs⟩ hys A s (r.le (Nat.le_succ _)) hs g

/-! ### iter with a sentinel -/
theorem wpAny_callBorrowed {M : Model} {A : Around} {E : Value → Shared → Prop} {s : Shared} {f : Value} {pos : List Value} {Q : Value → Shared → Prop} (h : wpAny M A (PySem.call f pos []) Q E s) : wpAny M A (callBorrowed f pos) Q E s := fun Γ p hΓ => by
  have h1 := h Γ p hΓ
  unfold PySem.call at h1
  rw [Sem.wp_runValue] at h1
  unfold callBorrowed
  simp only [Sem.wp]
  refine Eq.mp (congrArg (fun R => wpCode M _ R p s) (funext fun r => funext fun s' => ?_)) h1
  rcases r with e | (v | _ | _ | _) <;> simp [Sem.wp]
end
end Mine

-- FILE B12
open PySem PySem.W PyProof.Rows
set_option Elab.async false
set_option autoImplicit false
set_option maxRecDepth 100000
namespace Mine
section
variable {W : Wd} {n : Nat} {ae : AE} {H : List AO} {ρ : Rho}

theorem slot_ci_next : Slot "callable_iterator" "__next__" "callable_iterator.__next__" :=
  .of (owner := "callable_iterator") (n := "__next__") (by rw [typeLookup_type, builtinLookup_eq_fast]; kernel_rfl) (by decide +kernel) (by decide +kernel) (by decide +kernel)
    (by first | exact .inl (by decide +kernel) | exact .inr (by decide +kernel)) (by rw [isSubtype_type]; kernel_rfl)
theorem slot_ci_iter : Slot "callable_iterator" "__iter__" "callable_iterator.__iter__" :=
  .of (owner := "callable_iterator") (n := "__iter__") (by rw [typeLookup_type, builtinLookup_eq_fast]; kernel_rfl) (by decide +kernel) (by decide +kernel) (by decide +kernel)
    (by first | exact .inl (by decide +kernel) | exact .inr (by decide +kernel)) (by rw [isSubtype_type]; kernel_rfl)
theorem entry_ci_next : entryFor table "callable_iterator.__next__" = some Builtin.«callable_iterator.__next__» := entryFor_of_tree (by kernel_rfl)
theorem entry_ci_iter : entryFor table "callable_iterator.__iter__" = some Builtin.«dict_keyiterator.__iter__» :=
  entryFor_alias (id' := "dict_keyiterator.__iter__") (by kernel_rfl) rfl (by decide +kernel) (by kernel_rfl)
theorem args_ci_next (a : Value) : argsOk "callable_iterator.__next__" ⟨[a], []⟩ := by unfold argsOk; kernel_rfl
theorem args_ci_iter (a : Value) : argsOk "callable_iterator.__iter__" ⟨[a], []⟩ := by unfold argsOk; kernel_rfl
theorem kind_iter : builtinKind "iter" = none := by decide +kernel
theorem plain_iter : plainId "iter" = true := by decide +kernel
theorem entry_iter : entryFor table "iter" = some Builtin.«iter» := entryFor_of_tree (by kernel_rfl)
theorem args_iter2 (a b : Value) : argsOk "iter" ⟨[a, b], []⟩ := by unfold argsOk; kernel_rfl
theorem method_call_special : typeLookup (.type "method") "__call__" = pure (some (.builtin "method.__call__")) := by rw [typeLookup_type, builtinLookup_eq_fast]; kernel_rfl

noncomputable def callIt (j : Nat) (sv : Str) : AO := .iter "callable_iterator" [.ref j, .str sv, .bool false]
theorem Cl.iter2 {j i : Nat} {f : Addr} {sv : Str} {Q : V → List AO → Prop} (hj : H[j]? = some (meth f i)) (h : Q (.ref H.length) (H ++ [callIt j sv])) : Cl W n H (.bi "iter") [.ref j, .str sv] [] [] Q := fun ρ _ xs ys e hxs hys A s r hs g => by
  cases e
  obtain ⟨x, y, rfl, hxs⟩ := hxs.ex2
  obtain rfl := hys.ex0
  obtain ⟨⟨b, hb, e⟩, ⟨t, e2⟩, _⟩ := hxs
  subst e e2
  obtain ⟨a, ha, ho⟩ := hs.meth hb hj
  refine Calls.call_function_entry kind_iter plain_iter entry_iter (args_iter2 _ _) ?_
  refine wpAny_bind (m := someArgs "iter" 1 2 _) (wpAny_pure ?_)
  refine wpAny_bind (wpAny_specialOf (T := "method") ⟨_, ho, rfl⟩ method_call_special ?_)
  simp only [Option.isNone_some, Bool.false_eq_true, if_false]
  refine wpAny_bind (wpAny_rule (wpAny_bind (wpAny_newObj_type (wpAny_pure ⟨_, rfl, ?_⟩))))
  exact ⟨_, _, .push (t := s.toks) (o := callIt j sv) hs rfl ⟨rfl, _, rfl, ⟨b, (Le.snoc ρ _).get hb, rfl⟩, ⟨t, rfl⟩, rfl, trivial⟩ trivial, .ref H.length, ⟨_, by rw [← hs.len]; simp, rfl⟩, h⟩
theorem HS.callIt {B : Bs} {h : Heap} (hs : HS B ρ H h) {k j : Nat} {c : Addr} {sv : Str} (hc : ρ[k]? = some c) (hk : H[k]? = some (Mine.callIt j sv)) : ∃ o b t, h.get? c = some o ∧ o.cls = .type "callable_iterator" ∧ o.data = .fields #[.ref b, .str sv t, .bool false] ∧ ρ[j]? = some b := by
  obtain ⟨o, ho, ⟨hcl, ys, hd, hys⟩, _⟩ := hs.ent k c _ hc hk
  obtain ⟨y0, y1, y2, hy, hys⟩ := hys.ex3
  obtain ⟨⟨b, hb, e0⟩, ⟨t, e1⟩, e2, _⟩ := hys
  have e2 : y2 = .bool false := e2
  have ey : ys = #[.ref b, .str sv t, .bool false] := by rw [← Array.toArray_toList (xs := ys), hy, e0, e1, e2]
  subst ey
  exact ⟨o, b, t, ho, hcl, hd, hb⟩
theorem Ite.callIt {k j : Nat} {sv : Str} {Q : V → List AO → Prop} (hk : H[k]? = some (Mine.callIt j sv)) (h : Q (.ref k) H) : Ite W n H (.ref k) Q := fun ρ _ ⟨c, hc, e⟩ A s r hs g => by
  subst e
  obtain ⟨o, b, t, ho, hcl, hd, hb⟩ := hs.callIt hc hk
  have hT : s.TypeIs (.ref c) "callable_iterator" := ⟨o, ho, hcl⟩
  refine wpAny_pyIter_slot hT slot_ci_iter (wpAny_call_entry slot_ci_iter hT entry_ci_iter ?_ (args_ci_iter _))
  show wpAny _ _ (ret (.ref c)) _ _ s
  exact wpAny_pure ⟨_, rfl, "callable_iterator", _, hT, slot_ci_next.lookup, ρ, H, .refl hs, .ref k, ⟨c, hc, rfl⟩, h⟩
theorem pyNext_both {prog : Program} {w : World} {A : Around} {s : Shared} {E : Value → Shared → Prop} {Q : Option Value → Shared → Prop} {it : Value} {T id : String} {b : Builtin} (hT : s.TypeIs it T) (slot : Slot T "__next__" id) (entry : entryFor table id = some b) (args : argsOk id ⟨[it], []⟩)
    (h : wpAny (model prog w) A.in1 (b ⟨[it], []⟩) (fun fin s' => ∃ v, fin = .done (.ret v) ∧ Q (some v) s') (Stops (Q none)) s) : wpAny (model prog w) A (pyNext it) Q E s := by
  refine wpAny_bind (wpAny_attempt (wpAny_callSpecial?_slot (name := Str.ofString "__next__") hT slot (wpAny_call_entry slot hT entry (wpAny_mono h (fun fin s' ⟨v, e, q⟩ => ⟨v, e, wpAny_pure q⟩) fun e s' x => ?_) args)))
  exact wpAny_bind (wpAny_isInstance (T := "StopIteration") (b := true) x.1 isSubtype_stop (wpAny_pure x.2))
theorem borrows_method {M : Model} {A : Around} {E : Value → Shared → Prop} {s : Shared} {b f : Addr} {self : Value} {o : Obj} {fd : FuncData} {Q : Bool → Shared → Prop} (hb : s.heap.get? b = some (methodObj (.ref f) self)) (hf : s.heap.get? f = some o) (hd : o.data = .func fd) (h : Q true s) :
    wpAny M A (borrowsExactly (.ref b)) Q E s := by
  refine wpAny_bind (wpAny_load hb ?_)
  dsimp only
  refine wp_yes (by decide) ?_
  show wpAny _ _ (load f >>= _) _ _ _
  refine wpAny_bind (wpAny_load hf ?_)
  rw [hd]
  exact wpAny_pure h
end
end Mine

-- FILE B13
open PySem PySem.W PyProof.Rows
set_option Elab.async false
set_option autoImplicit false
set_option maxRecDepth 100000
namespace Mine
section
variable {W : Wd} {n : Nat} {ae : AE} {H : List AO} {ρ : Rho}

/-! ### attributes of a function -/
theorem slot_fn_sa : Slot "function" "__setattr__" "object.__setattr__" :=
  .of (owner := "object") (n := "__setattr__") (by rw [typeLookup_type, builtinLookup_eq_fast]; kernel_rfl) (by decide +kernel) (by decide +kernel) (by decide +kernel)
    (by first | exact .inl (by decide +kernel) | exact .inr (by decide +kernel)) (by rw [isSubtype_type]; kernel_rfl)
theorem fn_mro : mroOf (.type "function") = pure [.type "function", .type "object"] := by kernel_rfl
theorem fn_passes (self : Value) : refuseLoop self "__setattr__" [.type "function", .type "object"] = pure () := by kernel_rfl
theorem fn_read : typeLookup (.type "function") "read" = pure Option.none := by rw [typeLookup_type, builtinLookup_eq_fast]; kernel_rfl
theorem fn_ga : typeLookup (.type "function") "__getattribute__" = pure (some (.builtin "object.__getattribute__")) := by rw [typeLookup_type, builtinLookup_eq_fast]; kernel_rfl
theorem fn_gt : typeLookup (.type "function") "__getattr__" = pure Option.none := by rw [typeLookup_type, builtinLookup_eq_fast]; kernel_rfl
theorem slot_fn_ga : Slot "function" "__getattribute__" "object.__getattribute__" :=
  .of (owner := "object") (n := "__getattribute__") (by rw [typeLookup_type, builtinLookup_eq_fast]; kernel_rfl) (by decide +kernel) (by decide +kernel) (by decide +kernel)
    (by first | exact .inl (by decide +kernel) | exact .inr (by decide +kernel)) (by rw [isSubtype_type]; kernel_rfl)
theorem entry_oga : entryFor table "object.__getattribute__" = some Builtin.«object.__getattribute__» := entryFor_of_tree (by kernel_rfl)
theorem args_oga (a b : Value) : argsOk "object.__getattribute__" ⟨[a, b], []⟩ := by unfold argsOk; kernel_rfl
theorem HS.fn {B : Bs} {h : Heap} (hs : HS B ρ H h) {i : Nat} {a : Addr} {f : AFn} (ha : ρ[i]? = some a) (hi : H[i]? = some (.fn f)) : ∃ o, h.get? a = some o ∧ FnRel ρ f o ∧ (AO.fn f).Hp h o := by
  obtain ⟨o, ho, r, p⟩ := hs.ent i a _ ha hi
  exact ⟨o, ho, r, p⟩
theorem Sat.fnRead {i : Nat} {f : AFn} {v : V} {Q : List AO → Prop} (hi : H[i]? = some (.fn f)) (hd : f.dict = Option.none) (h : Q (H.set i (AO.fn { f with dict := some H.length }) ++ [AO.ns [("read", v)]])) : Sat W (n + 1) H (.ref i) "read" v Q := fun ρ _ y ⟨a, ha, e⟩ hv A s r hs g => by
  subst e
  obtain ⟨o, ho, hr, hp⟩ := hs.fn ha hi
  have hdict : o.dict = Option.none := by
    have := hr.dict
    rw [hd] at this
    cases hod : o.dict with
    | none => rfl
    | some b => rw [hod] at this; exact this.elim
  obtain ⟨fd, hfd, hrest⟩ := hr.data
  obtain ⟨oc, od, oda, osl⟩ := o
  have hcls : oc = .type "function" := hr.cls
  dsimp only at hdict hfd
  subst hcls hdict hfd
  have hT : s.TypeIs (.ref a) "function" := ⟨_, ho, rfl⟩
  have hil : i < H.length := by rw [← hs.len]; exact (List.getElem?_eq_some_iff.mp ha).1
  refine wpAny_bind (wpAny_mkText (wpAny_bind ?_))
  refine wpAny_callSpecial?_slot (s := { s with toks := s.toks + 1 }) hT slot_fn_sa ?_
  refine wpAny_call_entry (s := { s with toks := s.toks + 1 }) slot_fn_sa hT F.store_object.entry ?_ (F.store_object.args _ _ _)
  rw [osa_eq, refuse_eq]
  have tp : ∀ {Q' : Value → Shared → Prop}, Q' (.type "function") { s with toks := s.toks + 1 } → wpAny W.M A.in1 (typeOf (.ref a)) Q' (fun _ _ => False) { s with toks := s.toks + 1 } := fun q => wpAny_typeOf (s := { s with toks := s.toks + 1 }) hT q
  refine wpAny_bind (wpAny_bind (tp ?_))
  rw [fn_mro]
  refine wpAny_bind (wpAny_pure ?_)
  rw [fn_passes]
  refine wpAny_pure (wpAny_bind (tp ?_))
  rw [fn_read]
  refine wpAny_bind (wpAny_pure (wpAny_bind (wpAny_pure ?_)))
  dsimp only
  refine wpAny_bind (wpAny_pure ?_)
  refine wp_no (by decide) ?_
  obtain ⟨hh, gg, dd, tk, os⟩ := s
  have hl := hs.len
  have p0 : Post W.B ρ ⟨hh, gg, dd, tk, os⟩ ⟨hh, gg, dd, tk + 1, os⟩ ρ H := .toks hs rfl rfl rfl
  have p1 : Post W.B ρ ⟨hh, gg, dd, tk + 1, os⟩ ⟨hh.push emptyDict, gg, dd, tk + 1, os⟩ (ρ ++ [hh.objs.size]) (H ++ [AO.ns []]) := .push (t := tk + 1) (o := .ns []) p0.hs rfl ⟨#[], 0, rfl, fun _ he => by simp at he, Nat.le_refl _, fun x => trivial⟩ trivial
  have ho1 : (hh.push emptyDict).get? a = some ⟨.type "function", Option.none, .func fd, osl⟩ := Heap.get?_push_of_some _ ho
  have ha1 : (ρ ++ [hh.objs.size])[i]? = some a := p1.le.get ha
  have hD : (ρ ++ [hh.objs.size])[H.length]? = some hh.objs.size := by rw [← hl]; simp
  have p2 : Post W.B (ρ ++ [hh.objs.size]) ⟨hh.push emptyDict, gg, dd, tk + 1, os⟩ ⟨(hh.push emptyDict).update a (fun o => { o with dict := some hh.objs.size }), gg, dd, tk + 1, os⟩ (ρ ++ [hh.objs.size]) ((H ++ [AO.ns []]).set i (AO.fn { f with dict := some H.length })) := by
    have kc : KeepCode (hh.push emptyDict) ((hh.push emptyDict).update a (fun o => { o with dict := some hh.objs.size })) := keepCode_of_set (.update ..) ho1 (by rintro ⟨cq, _⟩; injection cq with cq; exact absurd cq (by decide))
    refine .set (s' := ⟨(hh.push emptyDict).update a (fun o => { o with dict := some hh.objs.size }), gg, dd, tk + 1, os⟩) (o := .fn { f with dict := some H.length }) p1.hs ha1 (.update ..) (Heap.get?_update_self _ ho1 rfl) ?_ ?_ kc rfl rfl
    · obtain ⟨c2, c3, c4, c5, c6, c7, c8, c9, c10, c11⟩ := hrest
      exact ⟨rfl, hD, fd, rfl, c2, c3, c4, c5, c6, c7, c8, c9, c10, c11.mono p1.le⟩
    · intro fd' hfd'
      cases hfd'
      exact kc.rec ((hp fd rfl).keeps fun _ _ e => Heap.get?_push_of_some _ e)
  have inst : wpAny W.M A.in1 (instanceDict a true) (fun r s' => r = some hh.objs.size ∧ s' = ⟨(hh.push emptyDict).update a (fun o => { o with dict := some hh.objs.size }), gg, dd, tk + 1, os⟩) (fun _ _ => False) ⟨hh, gg, dd, tk + 1, os⟩ := by
    refine wpAny_bind (wpAny_loadPart ho ?_)
    dsimp only
    refine wp_no (by decide) ?_
    refine wpAny_bind (wpAny_alloc (wpAny_bind (wpAny_update ho1 ?_)))
    exact wpAny_pure ⟨rfl, rfl⟩
  refine wpAny_bind (wpAny_mono inst (fun r s' ⟨e1, e2⟩ => ?_) fun _ _ e => e)
  subst e1 e2
  refine wpAny_bind (wpAny_pure (wpAny_bind ?_))
  have hns : ((H ++ [AO.ns []]).set i (AO.fn { f with dict := some H.length }))[H.length]? = some (.ns []) := by
    rw [List.getElem?_set_ne (by lia)]; simp
  have t : Tri W 0 (ρ ++ [hh.objs.size]) ((H ++ [AO.ns []]).set i (AO.fn { f with dict := some H.length })) (PySem.nsSet hh.objs.size "read" y) (fun ρ' H' _ => ρ' = ρ ++ [hh.objs.size] ∧ H' = ((H ++ [AO.ns []]).set i (AO.fn { f with dict := some H.length })).set H.length (AO.ns [("read", v)])) := .nsSet hD hns (hv.mono p1.le) ⟨rfl, rfl⟩
  have p012 := (p0.trans p1).trans p2
  refine wpAny_mono (t A.in1 _ ⟨r.hd, by have := r.dp; show A.depth + 3 * 0 < 980; lia, by have := r.un; show A.units + 1 + 10 * 0 < 9800; lia⟩ p2.hs g) (fun _ s' ⟨ρ', H', p, e1, e2⟩ => ?_) fun _ _ e => e.elim
  rw [e1, e2] at p
  obtain ⟨o', ho', ⟨es', ep', hd', _, hz', _⟩, _⟩ := p.hs.ent H.length hh.objs.size (.ns [("read", v)]) hD (by rw [List.getElem?_set_self (by simp)])
  have hz'' : es'.size ≤ 1 := hz'
  refine wpAny_bind (wpAny_lookBehind ho' (by rw [hd']; exact pastItsLine_dict (by rw [sizeLine_eq]; lia)) (wpAny_pure ⟨_, rfl, wpAny_pure ⟨_, _, p012.trans p, ?_⟩⟩))
  have : ((H ++ [AO.ns []]).set i (AO.fn { f with dict := some H.length })).set H.length (AO.ns [("read", v)]) = H.set i (AO.fn { f with dict := some H.length }) ++ [AO.ns [("read", v)]] := by
    rw [List.set_append_left _ _ hil]
    have := List.set_append_right (s := H.set i (AO.fn { f with dict := some H.length })) (t := [AO.ns []]) H.length (AO.ns [("read", v)]) (by simp)
    rw [this]
    simp
  rw [this]
  exact h
theorem Met.fnRead {i d : Nat} {f : AFn} {m : List (Str × V)} {v : V} {Q : V → List V → List AO → Prop} (hi : H[i]? = some (.fn f)) (hd : f.dict = some d) (hH : H[d]? = some (.ns m)) (hx : m.lookup ("read" : Str) = some v) (hp : v.plain = true) (h : Q v [] H) : Met W n H (.ref i) "read" Q := fun ρ _ pl ⟨a, ha, e⟩ => by
  subst e
  refine .quiet fun A s r hs g => ?_
  obtain ⟨o, ho, hr, _⟩ := hs.fn ha hi
  have hT : s.TypeIs (.ref a) "function" := ⟨o, ho, hr.cls⟩
  obtain ⟨fd, hfd, _⟩ := hr.data
  have hdr := hr.dict
  rw [hd] at hdr
  cases hod : o.dict with
  | none => rw [hod] at hdr; exact hdr.elim
  | some dx =>
  rw [hod] at hdr
  have hdx : ρ[d]? = some dx := hdr
  obtain ⟨oD, hoD, ⟨es, ep, h1, h2, _, h3⟩, _⟩ := hs.ent d dx _ hdx hH
  have hx3 := h3 "read"
  rw [hx] at hx3
  cases hf : nsFind es "read" with
  | none => rw [hf] at hx3; exact hx3.elim
  | some y =>
  rw [hf] at hx3
  refine wpAny_bind (wpAny_specialOf hT fn_ga ?_)
  refine wp_no (by decide +kernel) ?_
  refine wpAny_bind (wpAny_specialOf hT fn_gt ?_)
  refine wp_no (by decide) ?_
  refine wpAny_bind (wpAny_specialOf hT fn_read ?_)
  refine wpAny_bind ?_
  have hT' : ({ s with toks := s.toks + 1 } : Shared).TypeIs (.ref a) "function" := ⟨o, ho, hr.cls⟩
  refine wpAny_bind (wpAny_mkText (wpAny_holding (wpAny_bind (wpAny_typeOf (s := { s with toks := s.toks + 1 }) hT' ?_))))
  rw [fn_ga]
  refine wpAny_bind (wpAny_pure ?_)
  refine wp_no (by decide) ?_
  refine wpAny_bind (wpAny_of_eq (show (if onTheHeap (.type "function") then typeLookup (.type "function") "__getattr__" else pure Option.none) = pure Option.none from rfl) ?_)
  refine wpAny_bind (wpAny_attempt (wpAny_holding ?_))
  show wpAny _ _ (bindSpecial (.builtin "object.__getattribute__") (.ref a) >>= _) _ _ _
  refine wpAny_bind (wpAny_of_eq (slot_fn_ga.bind _) ?_)
  refine wpAny_call_entry (s := { s with toks := s.toks + 1 }) slot_fn_ga hT' entry_oga ?_ (args_oga _ _)
  refine wpAny_bind (wpAny_of_eq (a := (Value.ref a, [Value.str "read" s.toks])) rfl ?_)
  refine wpAny_bind (wpAny_pure (wpAny_bind (wpAny_typeOf (s := { s with toks := s.toks + 1 }) hT' ?_)))
  have hns : ({ s with toks := s.toks + 1 } : Shared).heap.Ns dx (nsFind es) := ⟨oD, es, ep, hoD, h1, h2, fun _ => rfl⟩
  have fin : ∀ A', wpAny W.M A' (Builtin.ObjectAttr.find (.ref a) (.type "function") "read") (fun r s' => r = .value y ∧ s' = { s with toks := s.toks + 1 }) (fun _ _ => False) { s with toks := s.toks + 1 } := fun A' => by
    unfold Builtin.ObjectAttr.find
    rw [fn_read]
    refine wpAny_bind (wpAny_pure (wpAny_bind (wpAny_pure (wpAny_bind (wpAny_pure ?_)))))
    refine wpAny_bind (wpAny_bind (wpAny_bind (wpAny_loadPart ho ?_)))
    rw [hfd]
    refine wpAny_bind (wpAny_loadPart ho ?_)
    rw [hr.cls, hod]
    refine wpAny_pure ?_
    show wpAny _ _ (nsGet dx "read") _ _ _
    refine wpAny_nsGet hns ?_
    rw [hf]
    exact wpAny_bind (wpAny_rule (wpAny_pure ⟨rfl, rfl⟩))
  refine wpAny_bind (wpAny_mono (fin _) (fun rr s' ⟨e1, e2⟩ => ?_) fun _ _ e => e.elim)
  subst e1 e2
  refine wpAny_pure ⟨_, rfl, ?_⟩
  show wpAny _ _ (handedOut y) _ _ _
  rw [handedOut_of (V.handed hp hx3)]
  exact wpAny_pure (wpAny_pure ⟨rfl, rfl, rfl, v, [], hx3, trivial, h⟩)
end
end Mine

-- FILE B14
open PySem PySem.W PyProof.Rows
set_option Elab.async false
set_option autoImplicit false
set_option maxRecDepth 100000
namespace Mine
section
variable {W : Wd} {n : Nat} {ae : AE} {H : List AO} {ρ : Rho}

/-- one new address that now stands in the heap -/
theorem Post.newAt {B : Bs} {s s' : Shared} (hs : HS B ρ H s.heap) {a : Addr} {x : Obj} {o : AO} (ha : s.heap.get? a = Option.none) (hk : ∀ b y, s.heap.get? b = some y → s'.heap.get? b = some y) (hx : s'.heap.get? a = some x)
    (ho : o.Is (ρ ++ [a]) x) (hp : o.Hp s'.heap x) (e1 : (s'.os, s'.drawn) = (s.os, s.drawn)) (e2 : s'.gens = s.gens) : Post B ρ s s' (ρ ++ [a]) (H ++ [o]) := by
  have hg := hs.grow hk
  have hna : a ∉ ρ := fun hm => by
    obtain ⟨i, hi⟩ := List.getElem?_of_mem hm
    have hl : i < H.length := by rw [← hs.len]; exact (List.getElem?_eq_some_iff.mp hi).1
    obtain ⟨y, ey, _⟩ := hs.ent i a H[i] hi (List.getElem?_eq_getElem hl)
    rw [ha] at ey; cases ey
  refine ⟨⟨hg.keep, by simp [hs.len], ?_, ?_, ?_, ?_⟩, .snoc _ _, ?_, fun b y e _ _ => hk b y e, fun b y _ e => hk b y e, e1, e2⟩
  · rw [List.nodup_append]
    exact ⟨hs.nodup, by simp, fun b hb c hc e => hna (by rw [← List.mem_singleton.mp hc, ← e]; exact hb)⟩
  · intro b hb
    rcases List.mem_append.mp hb with hb | hb
    · exact hs.fresh b hb
    · rw [List.mem_singleton.mp hb]
      cases e : B.get? a with
      | none => rfl
      | some y => rw [hs.keep _ _ e] at ha; cases ha
  · intro i b o' hb ho'
    by_cases hi : i < ρ.length
    · rw [List.getElem?_append_left hi] at hb
      rw [List.getElem?_append_left (hs.len ▸ hi)] at ho'
      obtain ⟨y, e, k, kp⟩ := hg.ent i b o' hb ho'
      exact ⟨y, e, k.mono (.snoc _ _), kp⟩
    · have hi' : i = ρ.length := by
        have := (List.getElem?_eq_some_iff.mp hb).1
        simp at this; lia
      subst hi'
      rw [List.getElem?_append_right (Nat.le_refl _)] at hb
      rw [hs.len, List.getElem?_append_right (Nat.le_refl _)] at ho'
      simp at hb ho'
      subst hb ho'
      exact ⟨x, hx, ho, hp⟩
  · intro P hP
    obtain ⟨h1, xs, h2, h3⟩ := hg.tabs P hP
    refine ⟨fun q => ?_, xs, h2, h3⟩
    rcases List.mem_append.mp q with q | q
    · exact h1 q
    · rw [List.mem_singleton.mp q] at hP
      obtain ⟨_, _, ys, h4, _⟩ := hs.tabs a hP
      rw [ha] at h4; cases h4
  · intro b hb hn
    rcases List.mem_append.mp hb with hb | hb
    · exact absurd hb hn
    · rw [List.mem_singleton.mp hb]; exact ha

noncomputable def signs (x : Str) : List V := x.cps.toList.map fun c => V.str ⟨#[c]⟩
theorem Cl.listStr {x : Str} {Q : V → List AO → Prop} (hz : x.cps.size ≤ 1000000) (h : Q (.ref H.length) (H ++ [.lst (signs x)])) : Cl W n H (.typ "list") [.str x] [] [] Q := fun ρ _ xs ys e hxs hys A s r hs g => by
  cases e
  obtain ⟨y, rfl, hxs⟩ := hxs.ex1
  obtain rfl := hys.ex0
  obtain ⟨⟨t, e1⟩, _⟩ := hxs
  subst e1
  refine call_list_str r.hd x t (fun h' tk acc c' hk hg hacc => ?_) (by rw [sizeLine_val]; lia)
  refine ⟨_, _, .newAt (s' := { s with heap := h', toks := tk }) (o := .lst (signs x)) hs (Heap.get?_none_of_le (Nat.le_refl _)) hk hg ⟨c', acc, rfl, ?_⟩ trivial rfl rfl, .ref H.length, ⟨_, by rw [← hs.len]; simp, rfl⟩, h⟩
  have hsz : acc.toList.length = (signs x).length := by simp [signs, hacc.1]
  refine VL.of_get hsz fun i v z hv hz => ?_
  obtain ⟨c, u, hc, e⟩ := hacc.2 i z (by simpa using hz)
  subst e
  unfold signs at hv
  rw [List.getElem?_map] at hv
  have : x.cps.toList[i]? = some c := by simpa using hc
  rw [this] at hv
  cases hv
  exact ⟨u, rfl⟩

/-! ### enumerate -/
theorem HS.enum {B : Bs} {h : Heap} (hs : HS B ρ H h) {e it : Nat} {own : Option Nat} {i : Int} {old : V} {a : Addr} (ha : ρ[e]? = some a) (he : H[e]? = some (.enum own it i old)) :
    ∃ xo b y, OwnRel ρ own xo ∧ ρ[it]? = some b ∧ old.Rel ρ y ∧ h.get? a = some { cls := .type "enumerate", data := .fields #[xo, .bool false, .ref b, rawInt i, .none, y] } := by
  obtain ⟨o, ho, ⟨xo, b, y, e1, e2, e3, e4⟩, _⟩ := hs.ent e a _ ha he
  subst e4
  exact ⟨xo, b, y, e1, e2, e3, ho⟩
theorem Cl.enumerate {l : Nat} {vs : List V} {Q : V → List AO → Prop} (hl : H[l]? = some (.lst vs)) (h : Q (.ref (H.length + 1)) (H ++ [lstIt l 0] ++ [.enum Option.none H.length 0 .none])) : Cl W n H (.typ "enumerate") [.ref l] [] [] Q := fun ρ _ xs ys e hxs hys A s r hs g => by
  cases e
  obtain ⟨x, rfl, hxs⟩ := hxs.ex1
  obtain rfl := hys.ex0
  obtain ⟨⟨a, ha, e⟩, _⟩ := hxs
  subst e
  obtain ⟨m, xs, hx, hxs⟩ := hs.lst ha hl
  refine call_enumerate_list ⟨_, hx, rfl, m, rfl⟩ fun h' he hit hsz hk => ?_
  obtain ⟨oi, hoi, hci, hdi⟩ := hit
  have hl0 := hs.len
  -- the two in one: first the list's own, then the counter
  have p1 : Post W.B ρ s { s with heap := h' } (ρ ++ [s.heap.objs.size]) (H ++ [lstIt l 0]) := .newAt (s' := { s with heap := h' }) (o := lstIt l 0) hs (Heap.get?_none_of_le (Nat.le_refl _)) hk hoi ⟨hci, _, hdi, ⟨a, (Le.snoc ρ _).get ha, rfl⟩, rfl, trivial⟩ trivial rfl rfl
  have hb : (ρ ++ [s.heap.objs.size])[H.length]? = some s.heap.objs.size := by rw [← hl0]; simp
  have p2 : HS W.B (ρ ++ [s.heap.objs.size] ++ [s.heap.objs.size + 1]) (H ++ [lstIt l 0] ++ [.enum Option.none H.length 0 .none]) h' := by
    have hs1 := p1.hs
    have hn : s.heap.get? (s.heap.objs.size + 1) = Option.none := Heap.get?_none_of_le (Nat.le_succ _)
    have hnr : s.heap.objs.size + 1 ∉ ρ ++ [s.heap.objs.size] := fun hm => by
      rcases List.mem_append.mp hm with hm | hm
      · exact absurd (hs.lt hm) (Nat.not_lt.mpr (Nat.le_succ _))
      · exact absurd (List.mem_singleton.mp hm) (Nat.succ_ne_self _)
    refine ⟨hs1.keep, by simp [hl0], ?_, ?_, ?_, ?_⟩
    · rw [List.nodup_append]
      exact ⟨hs1.nodup, by simp, fun b hb c hc e => hnr (by rw [← List.mem_singleton.mp hc, ← e]; exact hb)⟩
    · intro b hb
      rcases List.mem_append.mp hb with hb | hb
      · exact hs1.fresh b hb
      · rw [List.mem_singleton.mp hb]
        cases e : W.B.get? (s.heap.objs.size + 1) with
        | none => rfl
        | some y => rw [hs.keep _ _ e] at hn; cases hn
    · intro i b o' hb' ho'
      by_cases hi : i < (ρ ++ [s.heap.objs.size]).length
      · rw [List.getElem?_append_left hi] at hb'
        rw [List.getElem?_append_left (hs1.len ▸ hi)] at ho'
        obtain ⟨y, e, k, kp⟩ := hs1.ent i b o' hb' ho'
        exact ⟨y, e, k.mono (.snoc _ _), kp⟩
      · have hi' : i = (ρ ++ [s.heap.objs.size]).length := by
          have h0 := (List.getElem?_eq_some_iff.mp hb').1
          rw [List.length_append] at h0
          simp only [List.length_cons, List.length_nil] at h0
          lia
        subst hi'
        rw [List.getElem?_append_right (Nat.le_refl _)] at hb'
        rw [hs1.len, List.getElem?_append_right (Nat.le_refl _)] at ho'
        simp at hb' ho'
        subst hb' ho'
        exact ⟨_, he, ⟨.none, s.heap.objs.size, .none, rfl, (Le.snoc _ _).get hb, rfl, rfl⟩, trivial⟩
    · intro P hP
      obtain ⟨h1, h2⟩ := hs1.tabs P hP
      refine ⟨fun q => ?_, h2⟩
      rcases List.mem_append.mp q with q | q
      · exact h1 q
      · obtain ⟨_, _, ys, h4, _⟩ := hs.tabs P hP
        rw [List.mem_singleton.mp q, hn] at h4; cases h4
  refine ⟨_, _, ⟨p2, .trans (.snoc _ _) (.snoc _ _), fun b hb hn => ?_, fun b y e _ _ => hk b y e, fun b y _ e => hk b y e, rfl, rfl⟩, .ref (H.length + 1), ⟨s.heap.objs.size + 1, by rw [← hl0]; simp, rfl⟩, h⟩
  rcases List.mem_append.mp hb with hb | hb
  · exact p1.new b hb hn
  · rw [List.mem_singleton.mp hb]; exact Heap.get?_none_of_le (Nat.le_succ _)
theorem Ite.enum {e it : Nat} {i : Int} {old : V} {Q : V → List AO → Prop} (he : H[e]? = some (.enum Option.none it i old)) (h : Q (.ref e) H) : Ite W n H (.ref e) Q := fun ρ _ ⟨a, ha, e1⟩ A s r hs g => by
  subst e1
  obtain ⟨xo, b, y, e1, e2, e3, ho⟩ := hs.enum ha he
  cases e1
  exact wpAny_pyIter_enum ho ⟨ρ, H, .refl hs, .ref e, ⟨a, ha, rfl⟩, h⟩
end
end Mine

-- FILE B15
open PySem PySem.W PyProof.Rows
set_option Elab.async false
set_option autoImplicit false
set_option maxRecDepth 100000
namespace Mine
section
variable {W : Wd} {n : Nat} {ae : AE} {H : List AO} {ρ : Rho} {B : Bs}

theorem HS.adopt {h : Heap} (hs : HS B ρ H h) {a : Addr} {x : Obj} {o : AO} (hna : a ∉ ρ) (hB : B.get? a = Option.none) (hT : a ∉ B.tabs) (hx : h.get? a = some x) (ho : o.Is (ρ ++ [a]) x) (hp : o.Hp h x) : HS B (ρ ++ [a]) (H ++ [o]) h := by
  refine ⟨hs.keep, by simp [hs.len], ?_, ?_, ?_, ?_⟩
  · rw [List.nodup_append]
    exact ⟨hs.nodup, by simp, fun b hb c hc e => hna (by rw [← List.mem_singleton.mp hc, ← e]; exact hb)⟩
  · intro b hb
    rcases List.mem_append.mp hb with hb | hb
    · exact hs.fresh b hb
    · rw [List.mem_singleton.mp hb]; exact hB
  · intro i b o' hb ho'
    by_cases hi : i < ρ.length
    · rw [List.getElem?_append_left hi] at hb
      rw [List.getElem?_append_left (hs.len ▸ hi)] at ho'
      obtain ⟨y, e, k, kp⟩ := hs.ent i b o' hb ho'
      exact ⟨y, e, k.mono (.snoc _ _), kp⟩
    · have hi' : i = ρ.length := by
        have := (List.getElem?_eq_some_iff.mp hb).1
        simp at this; lia
      subst hi'
      rw [List.getElem?_append_right (Nat.le_refl _)] at hb
      rw [hs.len, List.getElem?_append_right (Nat.le_refl _)] at ho'
      simp at hb ho'
      subst hb ho'
      exact ⟨x, hx, ho, hp⟩
  · intro P hP
    obtain ⟨h1, h2⟩ := hs.tabs P hP
    refine ⟨fun q => ?_, h2⟩
    rcases List.mem_append.mp q with q | q
    · exact h1 q
    · exact hT (List.mem_singleton.mp q ▸ hP)
theorem HS.many {h h' : Heap} (hs : HS B ρ H h) (S : List Addr) {H' : List AO} (hS : ∀ a ∈ S, a ∈ ρ) (hk : ∀ b y, b ∉ S → h.get? b = some y → h'.get? b = some y) (kc : KeepCode h h') (hl : H'.length = H.length)
    (hent : ∀ (i : Nat) (a : Addr) (o : AO), ρ[i]? = some a → a ∈ S → H'[i]? = some o → ∃ x, h'.get? a = some x ∧ o.Is ρ x ∧ o.Hp h' x) (hsame : ∀ (i : Nat) (a : Addr), ρ[i]? = some a → a ∉ S → H'[i]? = H[i]?) : HS B ρ H' h' where
  keep := fun a y e => hk a y (fun hm => by have := hs.fresh a (hS a hm); rw [this] at e; cases e) (hs.keep a y e)
  len := by rw [hl, hs.len]
  nodup := hs.nodup
  fresh := hs.fresh
  ent := fun i a o ha ho => by
    by_cases hm : a ∈ S
    · exact hent i a o ha hm ho
    · rw [hsame i a ha hm] at ho
      obtain ⟨y, e, k, kp⟩ := hs.ent i a o ha ho
      exact ⟨y, hk a y hm e, k, kp.keep kc⟩
  tabs := fun P hP => by
    obtain ⟨h1, h2, xs, h3, h4, h5⟩ := hs.tabs P hP
    exact ⟨h1, h2, xs, hk P _ (fun hm => h1 (hS P hm)) h3, h4, fun pos c e => kc.rec (h5 pos c e)⟩
theorem HS.notTab {h : Heap} (hs : HS B ρ H h) {a : Addr} (ha : h.get? a = Option.none) : a ∉ B.tabs := fun q => by
  obtain ⟨_, _, ys, h4, _⟩ := hs.tabs a q
  rw [ha] at h4; cases h4
theorem HS.notBase {h : Heap} (hs : HS B ρ H h) {a : Addr} (ha : h.get? a = Option.none) : B.get? a = Option.none := by
  cases e : B.get? a with
  | none => rfl
  | some y => rw [hs.keep _ _ e] at ha; cases ha
theorem HS.notIn {h : Heap} (hs : HS B ρ H h) {a : Addr} (ha : h.get? a = Option.none) : a ∉ ρ := fun hm => by
  obtain ⟨i, hi⟩ := List.getElem?_of_mem hm
  have hl : i < H.length := by rw [← hs.len]; exact (List.getElem?_eq_some_iff.mp hi).1
  obtain ⟨y, ey, _⟩ := hs.ent i a H[i] hi (List.getElem?_eq_getElem hl)
  rw [ha] at ey; cases ey

/-- two entries changed at once -/
theorem HS.two {h h' : Heap} (hs : HS B ρ H h) {a b : Addr} {e i : Nat} {x y : AO} (ha : ρ[e]? = some a) (hb : ρ[i]? = some b) (hei : e ≠ i) (hk : ∀ c o, c ≠ a → c ≠ b → h.get? c = some o → h'.get? c = some o) (kc : KeepCode h h')
    (hx : ∃ z, h'.get? a = some z ∧ x.Is ρ z ∧ x.Hp h' z) (hy : ∃ z, h'.get? b = some z ∧ y.Is ρ z ∧ y.Hp h' z) : HS B ρ ((H.set e x).set i y) h' := by
  have heL : e < H.length := by rw [← hs.len]; exact (List.getElem?_eq_some_iff.mp ha).1
  have hiL : i < H.length := by rw [← hs.len]; exact (List.getElem?_eq_some_iff.mp hb).1
  refine hs.many [a, b] (fun c hc => ?_) (fun c o' hc ec => hk c o' (fun q => hc (by simp [q])) (fun q => hc (by simp [q])) ec) kc (by simp) (fun j c o' hj hc hH => ?_) (fun j c hj hc => ?_)
  · rcases List.mem_cons.mp hc with q | q
    · exact q ▸ List.mem_of_getElem? ha
    · exact List.mem_singleton.mp q ▸ List.mem_of_getElem? hb
  · rcases List.mem_cons.mp hc with q | q
    · subst q
      have : j = e := nodup_inj hs.nodup hj ha
      subst this
      rw [List.getElem?_set_ne (Ne.symm hei), List.getElem?_set_self heL] at hH
      cases hH
      exact hx
    · have q := List.mem_singleton.mp q
      subst q
      have : j = i := nodup_inj hs.nodup hj hb
      subst this
      rw [List.getElem?_set_self (by simpa using hiL)] at hH
      cases hH
      exact hy
  · rw [List.getElem?_set_ne (fun q => hc (by subst q; rw [hb] at hj; cases hj; simp)), List.getElem?_set_ne (fun q => hc (by subst q; rw [ha] at hj; cases hj; simp))]
theorem set_two {e i : Nat} {x y x' y' t : AO} (he : e < H.length) (hi : i < H.length) (n : e ≠ i) : ((((H.set e x).set i y) ++ [t]).set e x').set i y' = (H.set e x').set i y' ++ [t] := by
  rw [List.set_append_left _ _ (by simpa using he), List.set_append_left _ _ (by simpa using hi), List.set_comm _ _ n.symm, List.set_set, List.set_set]
theorem Nxt.enumItem {e it l i : Nat} {vs : List V} {v old : V} {Q : Option V → List AO → Prop} (he : H[e]? = some (.enum Option.none it i old)) (hit : H[it]? = some (lstIt l i)) (hl : H[l]? = some (.lst vs)) (hv : vs[i]? = some v)
    (h : Q (some (.ref H.length)) ((H.set e (.enum (some H.length) it ((i : Int) + 1) v)).set it (lstIt l (i + 1)) ++ [.tup [.int i, v]])) : Nxt W n H (.ref e) Q := fun ρ _ ⟨a, ha, e1⟩ A s r hs g => by
  subst e1
  obtain ⟨xo, b, y, e1, hb, e3, ho⟩ := hs.enum ha he
  cases e1
  obtain ⟨oi, y0, y1, hoi, hci, hdi, ⟨al, hal, e4⟩, e5⟩ := hs.fields2 hb hit
  subst e4
  have e5 : y1 = .int i 0 := e5
  subst e5
  obtain ⟨m, xs, hx, hxs⟩ := hs.lst hal hl
  obtain ⟨z, hz, hzr⟩ := VL.get hxs hv
  have hl0 := hs.len
  have hne : a ≠ b := fun q => by
    subst q
    rw [hoi] at ho
    cases ho
    injection hci with hci
    exact absurd hci (by decide)
  have hei : e ≠ it := fun q => by subst q; rw [he] at hit; cases hit
  have heL : e < H.length := by rw [← hl0]; exact (List.getElem?_eq_some_iff.mp ha).1
  have hiL : it < H.length := by rw [← hl0]; exact (List.getElem?_eq_some_iff.mp hb).1
  refine wpAny_pyNext_enum_item ho ⟨oi, hoi, hci, hdi⟩ ⟨_, hx, rfl, m, rfl⟩ (x := z) (by simpa using hz) hne fun h' hO hI hT hsz hk => ?_
  obtain ⟨oi', hoi', hci', hdi'⟩ := hI
  have hfr : s.heap.get? s.heap.objs.size = Option.none := Heap.get?_none_of_le (Nat.le_refl _)
  have kc : KeepCode s.heap h' := fun c o' cl ec => by
    by_cases q1 : c = a
    · subst q1; rw [ho] at ec; cases ec; obtain ⟨q, _⟩ := cl; injection q with q; exact absurd q (by decide)
    · by_cases q2 : c = b
      · subst q2; rw [hoi] at ec; cases ec; obtain ⟨q, _⟩ := cl; rw [hci] at q; injection q with q; exact absurd q (by decide)
      · exact hk c o' q1 q2 ec
  -- the new pair first, with the two as junk; then the two
  have step1 : HS W.B ρ ((H.set e .junk).set it .junk) h' := hs.two ha hb hei hk kc ⟨_, hO, trivial, trivial⟩ ⟨_, hoi', trivial, trivial⟩
  have step2 := step1.adopt (a := s.heap.objs.size) (o := .tup [.int i, v]) (hs.notIn hfr) (hs.notBase hfr) (hs.notTab hfr) hT ⟨0, _, rfl, ⟨_, rfl⟩, hzr.mono (.snoc _ _), trivial⟩ trivial
  have hLe : Le ρ (ρ ++ [s.heap.objs.size]) := .snoc _ _
  have hTT : (ρ ++ [s.heap.objs.size])[H.length]? = some s.heap.objs.size := by rw [← hl0]; simp
  have step3 : HS W.B (ρ ++ [s.heap.objs.size]) ((H.set e (.enum (some H.length) it ((i : Int) + 1) v)).set it (lstIt l (i + 1)) ++ [.tup [.int i, v]]) h' :=
    set_two heL hiL hei ▸ step2.two (hLe.get ha) (hLe.get hb) hei (fun _ _ _ _ e => e) (fun _ _ _ e => e) ⟨_, hO, ⟨rawInt s.heap.objs.size, b, z, ⟨_, hTT, rfl⟩, hLe.get hb, hzr.mono hLe, rfl⟩, trivial⟩ ⟨_, hoi', ⟨hci', _, hdi', ⟨al, hLe.get hal, rfl⟩, rfl, trivial⟩, trivial⟩
  refine ⟨_, _, ⟨step3, hLe, fun c hc hn => ?_, fun c o' ec hn _ => ?_, kc, rfl, rfl⟩, some (.ref H.length), ⟨_, hTT, rfl⟩, h⟩
  · rcases List.mem_append.mp hc with hc | hc
    · exact absurd hc hn
    · rw [List.mem_singleton.mp hc]; exact hfr
  · exact hk c o' (fun q => hn (q ▸ List.mem_of_getElem? ha)) (fun q => hn (q ▸ List.mem_of_getElem? hb)) ec
theorem Own.enum {e it t : Nat} {i : Int} {old : V} {es : List Expr} {k : Nat} {pos : Pos} {Q : List AO → Prop} (he : H[e]? = some (.enum (some t) it i old)) (h : Q (H.set e (.enum Option.none it i old))) : Own W n H (.Tuple es k pos) (.ref e) (.ref t) Q := fun ρ _ _ ⟨a, ha, e1⟩ ⟨c, hc, e2⟩ A s r hs g => by
  subst e1 e2
  obtain ⟨xo, b, y, ⟨c', hc', e1⟩, hb, e3, ho⟩ := hs.enum ha he
  have : c' = c := Option.some.inj (hc'.symm.trans hc)
  subst this e1
  refine wpAny_letOwnedTupleGo_enum ho fun h' hO hsb => ?_
  exact ⟨ρ, _, .set (s' := { s with heap := h' }) (o := .enum Option.none it i old) hs ha hsb hO ⟨.none, b, y, rfl, hb, e3, rfl⟩ trivial (keepCode_of_set hsb ho (by rintro ⟨q, _⟩; injection q with q; exact absurd q (by decide))) rfl rfl, h⟩
theorem Own.listIt {j l i : Nat} {es : List Expr} {k : Nat} {pos : Pos} {v : V} {Q : List AO → Prop} (hj : H[j]? = some (lstIt l i)) (h : Q H) : Own W n H (.Tuple es k pos) (.ref j) v Q := fun ρ _ y ⟨a, ha, e1⟩ hv A s r hs g => by
  subst e1
  obtain ⟨o, y0, y1, ho, hc, hd, _, e5⟩ := hs.fields2 ha hj
  induction y with
  | ref t =>
    refine wpAny_bind (wpAny_load ho ?_)
    rw [hc, hd]
    refine wp_no (by simp) ?_
    exact wpAny_pure ⟨ρ, H, .refl hs, h⟩
  | _ => exact wpAny_pure ⟨ρ, H, .refl hs, h⟩
theorem Nxt.enumEnd {e it l i : Nat} {vs : List V} {old : V} {Q : Option V → List AO → Prop} (he : H[e]? = some (.enum Option.none it i old)) (hit : H[it]? = some (lstIt l i)) (hl : H[l]? = some (.lst vs)) (hv : vs.length ≤ i)
    (h : Q Option.none (H.set it .junk)) : Nxt W n H (.ref e) Q := fun ρ _ ⟨a, ha, e1⟩ A s r hs g => by
  subst e1
  obtain ⟨xo, b, y, e1, hb, e3, ho⟩ := hs.enum ha he
  cases e1
  obtain ⟨oi, y0, y1, hoi, hci, hdi, ⟨al, hal, e4⟩, e5⟩ := hs.fields2 hb hit
  subst e4
  have e5 : y1 = .int i 0 := e5
  subst e5
  obtain ⟨m, xs, hx, hxs⟩ := hs.lst hal hl
  have hz : xs[i]? = Option.none := by simp [hxs.sizeA, hv]
  refine pyNext_stop ⟨_, ho, rfl⟩ F.slot_enumerate_next F.entry_enumerate_next (F.args_enumerate_next_1 _) ?_
  show wpAny _ _ (field (.ref a) 2 >>= _) _ _ _
  refine wpAny_bind (wpAny_field ho rfl (x := .ref b) rfl ?_)
  refine wpAny_bind ?_
  have hT : s.TypeIs (.ref b) "list_iterator" := ⟨oi, hoi, hci⟩
  refine wpAny_bind (wpAny_callSpecial?_slot (name := Str.ofString "__next__") hT slot_listiter_next (wpAny_call_entry slot_listiter_next hT entry_listiter_next ?_ (args_listiter_next _)))
  show wpAny _ _ (field (.ref b) 0 >>= _) _ _ s
  refine wpAny_bind (wpAny_field hoi hdi (x := .ref al) rfl ?_)
  show wpAny _ _ (if (Value.ref al == Value.none) = true then _ else _) _ _ s
  refine wp_no (show ¬ ((Value.ref al == Value.none) = true) from Bool.false_ne_true) ?_
  show wpAny _ _ (field (.ref b) 1 >>= _) _ _ s
  refine wpAny_bind (wpAny_field hoi hdi (x := .int i 0) rfl ?_)
  show wpAny _ _ (seqItems? (.ref al) >>= _) _ _ s
  refine wpAny_bind (wpAny_seqItems hx rfl ?_)
  simp only [Int.toNat_natCast, hz]
  have hf := Heap.get?_update_self (h := s.heap) (fun o => Obj.mapFields (fun vs => vs.setIfInBounds 0 .none) o) hoi (Obj.isFreed_of_fields (Obj.data_mapFields hdi _))
  have p : Post W.B ρ s { s with heap := s.heap.update b (fun o => Obj.mapFields (fun vs => vs.setIfInBounds 0 .none) o) } ρ (H.set it .junk) :=
    .set (s' := { s with heap := s.heap.update b (fun o => Obj.mapFields (fun vs => vs.setIfInBounds 0 .none) o) }) (o := .junk) hs hb (.update ..) hf trivial trivial (keepCode_of_set (.update ..) hoi (by rintro ⟨q, _⟩; rw [hci] at q; injection q with q; exact absurd q (by decide))) rfl rfl
  refine wpAny_bind (wpAny_rule (wpAny_bind (wpAny_setField hoi hdi (by simp) (wp_stop r.hd fun h' hk => ?_))))
  exact ⟨ρ, _, p.trans (.grow (s' := { s with heap := h' }) p.hs hk rfl rfl), Option.none, trivial, h⟩
end
end Mine

-- FILE B16
open PySem PySem.W PyProof.Rows
set_option Elab.async false
set_option autoImplicit false
set_option maxRecDepth 100000
namespace Mine
section
variable {W : Wd} {n : Nat} {ae : AE} {H : List AO} {ρ : Rho} {B : Bs}

noncomputable def KVL (ρ : Rho) : List (Int × V) → List (Int × Value) → Prop
  | [], [] => True
  | p :: ps, q :: qs => (p.1 = q.1 ∧ p.2.Rel ρ q.2) ∧ KVL ρ ps qs
  | _, _ => False
theorem KVL.zip : ∀ {kz : List Int} {vs : List V} {xs : List Value}, VL ρ vs xs → KVL ρ (kz.zip vs) (kz.zip xs)
  | [], _, _, _ => trivial
  | _ :: _, [], [], _ => trivial
  | _ :: _, _ :: _, _ :: _, h => ⟨⟨rfl, h.1⟩, KVL.zip h.2⟩
  | _ :: _, [], _ :: _, h => h.elim
  | _ :: _, _ :: _, [], h => h.elim
theorem KVL.snd : ∀ {ps : List (Int × V)} {qs : List (Int × Value)}, KVL ρ ps qs → VL ρ (ps.map (·.2)) (qs.map (·.2))
  | [], [], _ => trivial
  | _ :: _, _ :: _, h => ⟨h.1.2, KVL.snd h.2⟩
  | [], _ :: _, h => h.elim
  | _ :: _, [], h => h.elim
theorem KVL.fst : ∀ {ps : List (Int × V)} {qs : List (Int × Value)}, KVL ρ ps qs → ps.map (·.1) = qs.map (·.1)
  | [], [], _ => rfl
  | _ :: _, _ :: _, h => by simp [h.1.1, KVL.fst h.2]
  | [], _ :: _, h => h.elim
  | _ :: _, [], h => h.elim
theorem KVL.perm {l1 l2 : List (Int × Value)} (p : l1.Perm l2) : ∀ {b2 : List (Int × V)}, KVL ρ b2 l2 → ∃ b1, b1.Perm b2 ∧ KVL ρ b1 l1 := by
  induction p with
  | nil => intro b2 h; induction b2 using List.casesOn with | nil => exact ⟨[], .nil, trivial⟩ | cons => exact h.elim
  | cons x _ ih =>
    intro b2 h
    induction b2 using List.casesOn with
    | nil => exact h.elim
    | cons b bs =>
      obtain ⟨b1, p1, h1⟩ := ih h.2
      exact ⟨b :: b1, .cons _ p1, h.1, h1⟩
  | swap x y l =>
    intro b2 h
    induction b2 using List.casesOn with
    | nil => exact h.elim
    | cons b bs =>
      induction bs using List.casesOn with
      | nil => exact h.2.elim
      | cons c cs => exact ⟨c :: b :: cs, .swap .., h.2.1, h.1, h.2.2⟩
  | trans _ _ ih1 ih2 =>
    intro b2 h
    obtain ⟨b1, p1, h1⟩ := ih2 h
    obtain ⟨b0, p0, h0⟩ := ih1 h1
    exact ⟨b0, p0.trans p1, h0⟩

noncomputable def nil0 : Heap := {}
noncomputable def liveList (h : Heap) (L : Addr) : List (Addr × Obj) := (List.range h.objs.size).filterMap fun a => if a = L then Option.none else (h.get? a).map fun o => (a, o)
theorem mem_live {h : Heap} {L a : Addr} {o : Obj} : (a, o) ∈ liveList h L ↔ h.get? a = some o ∧ a ≠ L := by
  unfold liveList
  rw [List.mem_filterMap]
  constructor
  · rintro ⟨b, _, e⟩
    split at e
    · cases e
    · rename_i hne
      cases hg : h.get? b with
      | none => rw [hg] at e; cases e
      | some o' => rw [hg] at e; cases e; exact ⟨hg, hne⟩
  · rintro ⟨e, hne⟩
    exact ⟨a, List.mem_range.mpr (Heap.lt_size e), by rw [if_neg hne, e]; rfl⟩

/-- the function's call, seen with all that stands kept as it is -/
noncomputable def Turn (W : Wd) (n : Nat) (f : AFn) (H : List AO) (u : V) (k : Int) : Prop :=
  ∃ p v, u = .ref p ∧ H[p]? = some (.lst [.int k, v]) ∧ ∀ (B' : Bs), (∀ b o, W.B.get? b = some o → B'.get? b = some o) → ∀ (a pa : Addr) (o : Obj) (m : Nat) (t : Tok) (x : Value),
    B'.get? a = some o → FnRel [] f o → (∀ fd, o.data = .func fd → B'.heap.CodeRec fd.code f.qual) → B'.get? pa = some { cls := .type "list", data := .seq #[.int k t, x] m } →
      Cl { W with B := B' } n [] (.gref a) [.gref pa] [] [] fun v _ => v = .int k
theorem FnRel.base {f : AFn} {o : Obj} (h : FnRel ρ f o) (hc : f.cells = []) (hd : f.dict = Option.none) : FnRel [] f o := by
  obtain ⟨a, b, fd, c1, c2, c3, c4, c5, c6, c7, c8, c9, c10, c11⟩ := h
  refine ⟨a, ?_, fd, c1, c2, c3, c4, c5, c6, c7, c8, c9, c10, ?_⟩
  · rw [hd] at b ⊢
    cases hod : o.dict with
    | none => trivial
    | some d => rw [hod] at b; exact b.elim
  · rw [hc] at c11 ⊢
    cases hcl : fd.closure with
    | nil => trivial
    | cons q r => rw [hcl] at c11; exact c11.elim
theorem Cl.sorted {l fi dd : Nat} {f : AFn} {us : List V} {kz : List Int} {Q : V → List AO → Prop} (hl : H[l]? = some (.lst us)) (hf : H[fi]? = some (.fn f)) (hfc : f.cells = []) (hfd : f.dict = Option.none) (hdd : H[dd]? = some .dict) (hlen : kz.length = us.length) (h64 : us.length < 64)
    (turn : ∀ (i : Nat) (u : V) (k : Int), us[i]? = some u → kz[i]? = some k → Turn W n f H u k)
    (h : ∀ qs : List (Int × V), qs.Perm (kz.zip us) → qs.Pairwise (fun p q => p.1 ≤ q.1) → Q (.ref H.length) (H ++ [.lst (qs.map (·.2))])) : Cl W (n + 1) H (.bi "sorted") [.ref l] ["key"] [.ref fi] Q := fun ρ _ xs ys e hxs hys A s r hs g => by
  cases e
  obtain ⟨x, rfl, hxs⟩ := hxs.ex1
  obtain ⟨y, rfl, hys⟩ := hys.ex1
  obtain ⟨⟨a, ha, e1⟩, _⟩ := hxs
  obtain ⟨⟨af, haf, e2⟩, _⟩ := hys
  subst e1 e2
  obtain ⟨m, xs, hx, hxs⟩ := hs.lst ha hl
  obtain ⟨of, hof, hfr, hfp⟩ := hs.fn haf hf
  have hddl : dd < H.length := (List.getElem?_eq_some_iff.mp hdd).1
  obtain ⟨L, hL⟩ : ∃ L, ρ[dd]? = some L := ⟨ρ[dd]'(by rw [hs.len]; exact hddl), List.getElem?_eq_getElem _⟩
  obtain ⟨oL, hoL, ⟨es, ep, hdL, hkL⟩, _⟩ := hs.ent dd L _ hL hdd
  have hLl : s.heap.get? L = some oL := hoL
  have Fr0 : Fr nil0 L s.heap (nsFind es) := ⟨⟨oL, es, ep, hoL, hdL, hkL, fun _ => rfl⟩, fun b o e => by simp [nil0, Heap.get?] at e, Nat.zero_le _⟩
  have N0 : News nil0 L s.heap (liveList s.heap L) := fun p hp => by
    obtain ⟨b, o⟩ := p
    obtain ⟨e, hne⟩ := mem_live.mp hp
    exact ⟨e, hne, by simp [nil0, Heap.get?]⟩
  have hxe : xs = xs.toList.toArray := by simp
  have hafL : af ≠ L := fun q => by
    subst q
    rw [hof] at hoL; cases hoL
    obtain ⟨fd, hfd', _⟩ := hfr.data
    rw [hfd'] at hdL; cases hdL
  refine ksk_sorted (kz := kz) (f := .ref af) (vs := xs.toList) (b := false) (kw := [(Str.ofString "key", .ref af)]) Fr0 N0 ⟨_, hx, rfl, m, by rw [← hxe]⟩ (by rw [hlen, hxs.length]) (by rw [hxs.length]; exact h64) (ksk_s1 _ _) (fun x => ksk_l1 _ _) (fun x => ksk_t1 af x) (fun i v k hv hk h1 tk own F1 N1 => ?_) (fun D h' tk out c F' N' hD hout => ?_)
  · have hil : i < us.length := by rw [← hxs.length]; exact (List.getElem?_eq_some_iff.mp hv).1
    obtain ⟨z, hz, hzr⟩ := VL.get hxs (List.getElem?_eq_getElem hil)
    have ez : z = v := Option.some.inj (hz.symm.trans hv)
    subst ez
    obtain ⟨p, w, ep', hp, ht⟩ := turn i _ k (List.getElem?_eq_getElem hil) hk
    rw [ep'] at hzr
    obtain ⟨pa, hpa, e3⟩ := hzr
    subst e3
    obtain ⟨mp, zs, hzs, hzv⟩ := hs.lst hpa hp
    obtain ⟨z0, z1, hq, hzv⟩ := hzv.ex2
    obtain ⟨⟨t, e4⟩, _, _⟩ := hzv
    have ezs : zs = #[.int k t, z1] := by rw [← Array.toArray_toList (xs := zs), hq, e4]
    subst ezs
    have all1 : ∀ b o, b ≠ L → s.heap.get? b = some o → h1.get? b = some o := fun b o hne e => (N1 (b, o) (List.mem_append_left _ (mem_live.mpr ⟨e, hne⟩))).1
    have hpaL : pa ≠ L := fun q => by subst q; rw [hzs] at hoL; cases hoL; cases hdL
    have hcode : ∀ fd, of.data = .func fd → (Bs.mk h1 [] fun _ => "").heap.CodeRec fd.code f.qual := fun fd e => by
      obtain ⟨ca, co, cv, ct, c1, c2, c3, c4, c5⟩ := hfp fd e
      refine ⟨ca, co, cv, ct, c1, all1 ca co (fun q => ?_) c2, c4, c5⟩
      subst q; rw [c2] at hoL; cases hoL; rw [c4] at hdL; cases hdL
    have hkB : ∀ b o, W.B.get? b = some o → (Bs.mk h1 [] fun _ => "").get? b = some o := fun b o e => by
      refine all1 b o (fun q => ?_) (hs.keep b o e)
      subst q
      have := hs.fresh _ (List.mem_of_getElem? hL)
      rw [e] at this; cases this
    have hs1 : HS (Bs.mk h1 [] fun _ => "") [] [] h1 := ⟨fun _ _ e => e, rfl, .nil, fun _ hm => by simp at hm, fun i a o hi => by simp at hi, fun P hP => by simp at hP⟩
    have hcl := ht (Bs.mk h1 [] fun _ => "") hkB af pa of mp t z1 (all1 af of hafL hof) (hfr.base hfc hfd) hcode (all1 pa _ hpaL hzs) [] (.ref af) [.ref pa] [] rfl ⟨rfl, trivial⟩ trivial A.in1.in1 { s with heap := h1, toks := tk }
      ⟨r.hd, by have := r.dp; show A.depth + 3 * n < 980; lia, by have := r.un; show A.units + 1 + 1 + 10 * n < 9800; lia⟩ hs1 g
    refine wpAny_mono hcl (fun y s2 ⟨ρ2, H2, p2, v2, hv2, e5⟩ => ?_) fun _ _ e => e
    subst e5
    obtain ⟨t2, e6⟩ := hv2
    subst e6
    have keep2 : ∀ b o, h1.get? b = some o → s2.heap.get? b = some o := fun b o e => p2.keep b o e (by simp) (by simp)
    obtain ⟨h2, g2, d2, tk2, os2⟩ := s2
    have e7 := p2.os
    have e8 := p2.gens
    simp only [Prod.mk.injEq] at e7
    obtain ⟨e7, e9⟩ := e7
    dsimp only at e7 e8 e9
    subst e7 e8 e9
    exact ⟨h2, tk2, t2, rfl, rfl, ⟨F1.ns.keeps keep2, fun b o e => keep2 b o (F1.keep b o e), F1.above⟩, fun q hq => ⟨keep2 _ _ (N1 q hq).1, (N1 q hq).2⟩⟩
  · obtain ⟨ps, hperm, hout2, hpw⟩ := hout
    obtain ⟨qs, hqp, hqv⟩ := KVL.perm hperm (KVL.zip (kz := kz) hxs)
    have hpq := hqv.fst
    have hD0 : s.heap.get? D = Option.none := by
      cases e : s.heap.get? D with
      | none => rfl
      | some o =>
        have hne := (N' _ (List.mem_cons_self ..)).2.1
        have := hD (D, o) (mem_live.mpr ⟨e, hne⟩)
        exact absurd this (Nat.lt_irrefl _)
    have all' : ∀ b o, b ≠ L → s.heap.get? b = some o → h'.get? b = some o := fun b o hne e => (N' (b, o) (List.mem_cons_of_mem _ (mem_live.mpr ⟨e, hne⟩))).1
    have kc : KeepCode s.heap h' := fun b o cl e => all' b o (fun q => by
      subst q; rw [hoL] at e; cases e
      obtain ⟨_, vs, q, t, d, _⟩ := cl
      rw [hdL] at d; cases d) e
    obtain ⟨oL', es', ep', hoL', hdL', hkL', _⟩ := F'.ns
    have st1 : HS W.B ρ H h' := by
      refine hs.many [L] (fun c hc => List.mem_singleton.mp hc ▸ List.mem_of_getElem? hL) (fun c o' hc ec => all' c o' (fun q => hc (by simp [q])) ec) kc rfl (fun j c o' hj hc hH => ?_) (fun _ _ _ _ => rfl)
      have q := List.mem_singleton.mp hc
      subst q
      have : j = dd := nodup_inj hs.nodup hj hL
      subst this
      rw [hdd] at hH; cases hH
      exact ⟨oL', hoL', ⟨es', ep', hdL', hkL'⟩, trivial⟩
    have hLe : Le ρ (ρ ++ [D]) := .snoc _ _
    have st2 := st1.adopt (a := D) (o := .lst (qs.map (·.2))) (hs.notIn hD0) (hs.notBase hD0) (hs.notTab hD0) (N' _ (List.mem_cons_self ..)).1 ⟨c, out, rfl, by rw [hout2]; exact hqv.snd.mono hLe⟩ trivial
    refine ⟨_, _, ⟨st2, hLe, fun b hb hn => ?_, fun b o e hn _ => all' b o (fun q => hn (q ▸ List.mem_of_getElem? hL)) e, kc, rfl, rfl⟩, .ref H.length, ⟨_, by rw [← hs.len]; simp, rfl⟩, h qs hqp ?_⟩
    · rcases List.mem_append.mp hb with hb | hb
      · exact absurd hb hn
      · rw [List.mem_singleton.mp hb]; exact hD0
    · have h1 : (ps.map (·.1)).Pairwise (· ≤ ·) := List.pairwise_map.mpr (hpw.imp fun e => by simpa using e)
      rw [← hpq] at h1
      exact List.pairwise_map.mp h1
end
end Mine

-- FILE C1
open PySem PySem.W PyProof.Rows
set_option Elab.async false
set_option autoImplicit false
set_option maxRecDepth 100000
namespace Mine

noncomputable def ci (P : Params) (a : Addr) : CInfo := match (hpK P).lookup a with
  | some ⟨_, _, .func fd, _⟩ => ⟨fd.params, fd.body, fd.scope, fd.qualname, fd.defaults, fd.kwdefaults, [], match fd.code with | .ref c => some c | _ => none⟩
  | _ => ⟨⟨[], [], none, [], [], none, []⟩, .stmts [], ⟨.function, [], false, false, []⟩, "", .none, .none, [], none⟩
/-- the object at the address is a function of the text, with its code beside it -/
noncomputable def fnOk (P : Params) (a : Addr) : Bool := match (hpK P).lookup a with
  | some ⟨_, _, .func fd, _⟩ => fd.closure.isEmpty && fd.globals == mainGlobals && fd.builtins == builtinsNs &&
      (match fd.code with
        | .ref c => (match (hpK P).lookup c with
          | some ⟨_, _, .fields vs, _⟩ => (match (vs[1]? : Option Value) with | some (.str q _) => q == fd.qualname | _ => false)
          | _ => false)
        | _ => false)
  | _ => false
structure Wo (W : Wd) (P : Params) (gl : Str → Option Value) : Prop where
  base : Base W gl
  K : (hpK P).In W.B.heap
  tabs : W.B.tabs = [207, 150, 37, 30, 214]
  q207 : W.B.qn 207 = "_law_end.<locals>.<lambda>"
  q150 : W.B.qn 150 = "_law_stream.<locals>.<lambda>"
  q37 : W.B.qn 37 = "_digits2int.<locals>.inner"
  q30 : W.B.qn 30 = "_int2digits.<locals>.inner"
  q214 : W.B.qn 214 = "law.<locals>.<lambda>"
section
variable {W : Wd} {P : Params} {gl : Str → Option Value} {n : Nat} {H : List AO}
theorem func_el {o : Option Obj} {k : FuncData → Bool} {G : Prop} (h : (match o with | some ⟨_, _, .func fd, _⟩ => k fd | _ => false) = true) (f : ∀ cls d fd sl, o = some ⟨cls, d, .func fd, sl⟩ → k fd = true → G) : G := by
  induction o with
  | none => cases h
  | some o =>
    obtain ⟨cls, d, data, sl⟩ := o
    induction data <;> first | (cases h; done) | exact f _ _ _ _ rfl h
theorem fields_el {o : Option Obj} {k : Array Value → Bool} {G : Prop} (h : (match o with | some ⟨_, _, .fields vs, _⟩ => k vs | _ => false) = true) (f : ∀ cls d vs sl, o = some ⟨cls, d, .fields vs, sl⟩ → k vs = true → G) : G := by
  induction o with
  | none => cases h
  | some o =>
    obtain ⟨cls, d, data, sl⟩ := o
    induction data <;> first | (cases h; done) | exact f _ _ _ _ rfl h
theorem ref_el {v : Value} {k : Addr → Bool} {G : Prop} (h : (match v with | .ref c => k c | _ => false) = true) (f : ∀ c, v = .ref c → k c = true → G) : G := by
  induction v <;> first | (cases h; done) | exact f _ rfl h
theorem str_el {v : Option Value} {k : Str → Bool} {G : Prop} (h : (match v with | some (.str q _) => k q | _ => false) = true) (f : ∀ q t, v = some (.str q t) → k q = true → G) : G := by
  induction v with
  | none => cases h
  | some v => induction v <;> first | (cases h; done) | exact f _ _ rfl h
theorem Wo.fn (w : Wo W P gl) {a : Addr} (h : fnOk P a = true) : Callable W H (.gref a) (ci P a) := by
  refine func_el h fun cls d fd sl hl h => ?_
  obtain ⟨h, h4⟩ := Bool.and_eq_true_iff.mp h
  obtain ⟨h, h3⟩ := Bool.and_eq_true_iff.mp h
  obtain ⟨h1, h2⟩ := Bool.and_eq_true_iff.mp h
  refine ref_el h4 fun c hc h4 => fields_el h4 fun c2 d2 vs sl2 hl2 h4 => str_el h4 fun q t hq h4 => ?_
  have hq' := eq_of_beq h4
  have hci : ci P a = ⟨fd.params, fd.body, fd.scope, fd.qualname, fd.defaults, fd.kwdefaults, [], some c⟩ := by
    unfold ci
    rw [hl]
    show CInfo.mk _ _ _ _ _ _ _ (match fd.code with | .ref c => some c | _ => none) = _
    rw [hc]
  rw [hci]
  refine .base (w.K _ _ hl) rfl (fun ρ => ⟨rfl, rfl, rfl, rfl, rfl, rfl, ?_, ?_, eq_of_beq h2, eq_of_beq h3⟩) ⟨c, _, vs, t, hc, w.K _ _ hl2, rfl, by rw [← hq']; exact hq⟩
  · rw [List.isEmpty_iff.mp h1]; trivial
  · exact hc
theorem ok184 (P : Params) : fnOk P 184 = true := by kernel_rfl
end
end Mine

-- FILE D0
open PySem PySem.W PyProof.Rows
set_option Elab.async false
set_option autoImplicit false
set_option maxRecDepth 100000
namespace Mine
noncomputable def glOf (P : Params) (x : Str) : Option Value := match (hpK P).lookup 3 with
  | some ⟨_, _, .dict es _, _⟩ => nsFind es x
  | _ => none
section
variable {W : Wd} {P : Params} {gl : Str → Option Value} {n : Nat} {H : List AO} {ae : AE}
theorem Ld.gRef (hB : Base W (glOf P)) {x : Str} {a : Addr} {Q : V → List AO → Prop} (hk : ae.scope.kind = .function) (hl : ae.scope.names.lookup x = some .globalImplicit) (hg : glOf P x = some (.ref a)) (h : Q (.gref a) H) : Ld W n ae H x Q := .global (v := .gref a) hB hk hl hg (fun _ => rfl) h
theorem Ld.gInt (hB : Base W (glOf P)) {x : Str} {i : Int} {t : Tok} {Q : V → List AO → Prop} (hk : ae.scope.kind = .function) (hl : ae.scope.names.lookup x = some .globalImplicit) (hg : glOf P x = some (.int i t)) (h : Q (.int i) H) : Ld W n ae H x Q := .global (v := .int i) hB hk hl hg (fun _ => ⟨t, rfl⟩) h
theorem Ld.bFn (hB : Base W (glOf P)) {x : Str} {nm : String} {Q : V → List AO → Prop} (hk : ae.scope.kind = .function) (hl : ae.scope.names.lookup x = some .globalImplicit) (hg : glOf P x = none) (hy : bootBuiltins x = some (.builtin nm)) (hx : x ≠ "__name__") (h : Q (.bi nm) H) : Ld W n ae H x Q := .builtin (v := .bi nm) hB hk hl hg hy hx (fun _ => rfl) h
theorem Ld.bTy (hB : Base W (glOf P)) {x : Str} {nm : String} {Q : V → List AO → Prop} (hk : ae.scope.kind = .function) (hl : ae.scope.names.lookup x = some .globalImplicit) (hg : glOf P x = none) (hy : bootBuiltins x = some (.type nm)) (hx : x ≠ "__name__") (h : Q (.typ nm) H) : Ld W n ae H x Q := .builtin (v := .typ nm) hB hk hl hg hy hx (fun _ => rfl) h

theorem g_int_divmod (P : Params) : glOf P "int_divmod" = some (.ref 56) := by kernel_rfl
theorem g_div2n1n (P : Params) : glOf P "_div2n1n" = some (.ref 21) := by kernel_rfl
theorem g_int2digits (P : Params) : glOf P "_int2digits" = some (.ref 35) := by kernel_rfl
theorem g_digits2int (P : Params) : glOf P "_digits2int" = some (.ref 42) := by kernel_rfl
theorem g_divmod_pos (P : Params) : glOf P "_divmod_pos" = some (.ref 49) := by kernel_rfl
theorem g_insort_right (P : Params) : glOf P "insort_right" = some (.ref 65) := by kernel_rfl
theorem g_bisect_right (P : Params) : glOf P "bisect_right" = some (.ref 74) := by kernel_rfl
theorem g_insort_left (P : Params) : glOf P "insort_left" = some (.ref 83) := by kernel_rfl
theorem g_bisect_left (P : Params) : glOf P "bisect_left" = some (.ref 92) := by kernel_rfl
theorem g_rgb_to_hls (P : Params) : glOf P "rgb_to_hls" = some (.ref 99) := by kernel_rfl
theorem g_rgb_to_hsv (P : Params) : glOf P "rgb_to_hsv" = some (.ref 106) := by kernel_rfl
theorem g_netrclex (P : Params) : glOf P "_netrclex" = some (.ref 144) := by kernel_rfl
theorem g_law_stream (P : Params) : glOf P "_law_stream" = some (.ref 155) := by kernel_rfl
theorem g_law_written (P : Params) : glOf P "_law_written" = some (.ref 160) := by kernel_rfl
theorem g_law_parts (P : Params) : glOf P "_law_parts" = some (.ref 165) := by kernel_rfl
theorem g_law_negative (P : Params) : glOf P "_law_negative" = some (.ref 170) := by kernel_rfl
theorem g_law_step (P : Params) : glOf P "_law_step" = some (.ref 177) := by kernel_rfl
theorem g_law_near (P : Params) : glOf P "_law_near" = some (.ref 184) := by kernel_rfl
theorem g_law_hue (P : Params) : glOf P "_law_hue" = some (.ref 191) := by kernel_rfl
theorem g_law_way (P : Params) : glOf P "_law_way" = some (.ref 198) := by kernel_rfl
theorem g_law_measure (P : Params) : glOf P "_law_measure" = some (.ref 205) := by kernel_rfl
theorem g_law_end (P : Params) : glOf P "_law_end" = some (.ref 212) := by kernel_rfl
theorem g_lim (P : Params) : glOf P "_DIV_LIMIT" = some (.int 4000 189) := by kernel_rfl
theorem g_divmod (P : Params) : glOf P "divmod" = none := by kernel_rfl
theorem g_len (P : Params) : glOf P "len" = none := by kernel_rfl
theorem g_max (P : Params) : glOf P "max" = none := by kernel_rfl
theorem g_min (P : Params) : glOf P "min" = none := by kernel_rfl
theorem g_iter (P : Params) : glOf P "iter" = none := by kernel_rfl
theorem g_sum (P : Params) : glOf P "sum" = none := by kernel_rfl
theorem g_abs (P : Params) : glOf P "abs" = none := by kernel_rfl
theorem g_sorted (P : Params) : glOf P "sorted" = none := by kernel_rfl
theorem g_reversed (P : Params) : glOf P "reversed" = none := by kernel_rfl
theorem g_list (P : Params) : glOf P "list" = none := by kernel_rfl
theorem g_range (P : Params) : glOf P "range" = none := by kernel_rfl
theorem g_int (P : Params) : glOf P "int" = none := by kernel_rfl
theorem g_enumerate (P : Params) : glOf P "enumerate" = none := by kernel_rfl
theorem ok56 (P : Params) : fnOk P 56 = true := by kernel_rfl
theorem ok21 (P : Params) : fnOk P 21 = true := by kernel_rfl
theorem ok35 (P : Params) : fnOk P 35 = true := by kernel_rfl
theorem ok42 (P : Params) : fnOk P 42 = true := by kernel_rfl
theorem ok49 (P : Params) : fnOk P 49 = true := by kernel_rfl
theorem ok65 (P : Params) : fnOk P 65 = true := by kernel_rfl
theorem ok74 (P : Params) : fnOk P 74 = true := by kernel_rfl
theorem ok83 (P : Params) : fnOk P 83 = true := by kernel_rfl
theorem ok92 (P : Params) : fnOk P 92 = true := by kernel_rfl
theorem ok99 (P : Params) : fnOk P 99 = true := by kernel_rfl
theorem ok106 (P : Params) : fnOk P 106 = true := by kernel_rfl
theorem ok155 (P : Params) : fnOk P 155 = true := by kernel_rfl
theorem ok160 (P : Params) : fnOk P 160 = true := by kernel_rfl
theorem ok165 (P : Params) : fnOk P 165 = true := by kernel_rfl
theorem ok170 (P : Params) : fnOk P 170 = true := by kernel_rfl
theorem ok177 (P : Params) : fnOk P 177 = true := by kernel_rfl
theorem ok191 (P : Params) : fnOk P 191 = true := by kernel_rfl
theorem ok198 (P : Params) : fnOk P 198 = true := by kernel_rfl
theorem ok205 (P : Params) : fnOk P 205 = true := by kernel_rfl
theorem ok212 (P : Params) : fnOk P 212 = true := by kernel_rfl
theorem ok120 (P : Params) : fnOk P 120 = true := by kernel_rfl
theorem ok127 (P : Params) : fnOk P 127 = true := by kernel_rfl
theorem ok134 (P : Params) : fnOk P 134 = true := by kernel_rfl
theorem ok141 (P : Params) : fnOk P 141 = true := by kernel_rfl
theorem b_divmod : bootBuiltins "divmod" = some (.builtin "divmod") := by kernel_rfl
theorem b_len : bootBuiltins "len" = some (.builtin "len") := by kernel_rfl
theorem b_max : bootBuiltins "max" = some (.builtin "max") := by kernel_rfl
theorem b_min : bootBuiltins "min" = some (.builtin "min") := by kernel_rfl
theorem b_iter : bootBuiltins "iter" = some (.builtin "iter") := by kernel_rfl
theorem b_sum : bootBuiltins "sum" = some (.builtin "sum") := by kernel_rfl
theorem b_abs : bootBuiltins "abs" = some (.builtin "abs") := by kernel_rfl
theorem b_sorted : bootBuiltins "sorted" = some (.builtin "sorted") := by kernel_rfl
theorem b_reversed : bootBuiltins "reversed" = some (.type "reversed") := by kernel_rfl
theorem b_list : bootBuiltins "list" = some (.type "list") := by kernel_rfl
theorem b_range : bootBuiltins "range" = some (.type "range") := by kernel_rfl
theorem b_int : bootBuiltins "int" = some (.type "int") := by kernel_rfl
theorem b_enumerate : bootBuiltins "enumerate" = some (.type "enumerate") := by kernel_rfl
noncomputable def fdc (c : CInfo) : FuncData := { name := "", qualname := c.qual, params := c.params, body := .stmts [], scope := c.scope, globals := 0, closure := [], defaults := c.defaults, kwdefaults := c.kwdefaults }
theorem bindArgs_fdc {ρ : Rho} {c : CInfo} {fd : FuncData} (h : FdIs ρ c fd) (args : Args) : bindArgs fd args = bindArgs (fdc c) args := by
  unfold bindArgs fdc
  rw [h.qual, h.params, h.defaults, h.kwdefaults]
theorem Bnd.peek {K : Frag} (X : K.In W.B.heap) {c : CInfo} {as kv : List V} {kn : List Str} {bs : List (Str × V)}
    (h : ∀ ρ xs ys, VL ρ as xs → VL ρ kv ys → ∃ binds, KV ρ bs binds ∧ ∀ S, PySem.W.peek K S (bindArgs (fdc c) ⟨xs, kn.zip ys⟩) = some binds) : Bnd W n H c as kn kv bs := fun ρ xs ys fd hxs hys hfd => by
  obtain ⟨binds, h1, h2⟩ := h ρ xs ys hxs hys
  rw [bindArgs_fdc hfd]
  exact .same fun A s r hs g => kp_binds (X.keeps hs.keep) h2 _ _ _ _ ⟨rfl, rfl, rfl, h1⟩
theorem Bnd.p1 {K : Frag} (X : K.In W.B.heap) {c : CInfo} {a : V} {n1 : Str} (h : ∀ S x, PySem.W.peek K S (bindArgs (fdc c) ⟨[x], []⟩) = some [(n1, x)]) : Bnd W n H c [a] [] [] [(n1, a)] := .peek X fun ρ xs ys hxs hys => by
  obtain ⟨x, rfl, hxs⟩ := hxs.ex1
  obtain rfl := hys.ex0
  exact ⟨[(n1, x)], ⟨rfl, hxs.1, trivial⟩, fun S => h S x⟩
theorem Bnd.p2 {K : Frag} (X : K.In W.B.heap) {c : CInfo} {a b : V} {n1 n2 : Str} (h : ∀ S x y, PySem.W.peek K S (bindArgs (fdc c) ⟨[x, y], []⟩) = some [(n1, x), (n2, y)]) : Bnd W n H c [a, b] [] [] [(n1, a), (n2, b)] := .peek X fun ρ xs ys hxs hys => by
  obtain ⟨x, y, rfl, hxs⟩ := hxs.ex2
  obtain rfl := hys.ex0
  exact ⟨[(n1, x), (n2, y)], ⟨rfl, hxs.1, rfl, hxs.2.1, trivial⟩, fun S => h S x y⟩
theorem Bnd.p3 {K : Frag} (X : K.In W.B.heap) {c : CInfo} {a b d : V} {n1 n2 n3 : Str} (h : ∀ S x y z, PySem.W.peek K S (bindArgs (fdc c) ⟨[x, y, z], []⟩) = some [(n1, x), (n2, y), (n3, z)]) : Bnd W n H c [a, b, d] [] [] [(n1, a), (n2, b), (n3, d)] := .peek X fun ρ xs ys hxs hys => by
  obtain ⟨x, y, z, rfl, hxs⟩ := hxs.ex3
  obtain rfl := hys.ex0
  exact ⟨[(n1, x), (n2, y), (n3, z)], ⟨rfl, hxs.1, rfl, hxs.2.1, rfl, hxs.2.2.1, trivial⟩, fun S => h S x y z⟩
theorem Bnd.p4 {K : Frag} (X : K.In W.B.heap) {c : CInfo} {a b d e : V} {n1 n2 n3 n4 : Str} (h : ∀ S x y z w, PySem.W.peek K S (bindArgs (fdc c) ⟨[x, y, z, w], []⟩) = some [(n1, x), (n2, y), (n3, z), (n4, w)]) : Bnd W n H c [a, b, d, e] [] [] [(n1, a), (n2, b), (n3, d), (n4, e)] := .peek X fun ρ xs ys hxs hys => by
  obtain ⟨x, y, z, w, rfl, hxs⟩ := hxs.ex4
  obtain rfl := hys.ex0
  exact ⟨[(n1, x), (n2, y), (n3, z), (n4, w)], ⟨rfl, hxs.1, rfl, hxs.2.1, rfl, hxs.2.2.1, rfl, hxs.2.2.2.1, trivial⟩, fun S => h S x y z w⟩

noncomputable def viewL (m : List Nat) (H : List AO) : List Nat → List AO → Prop
  | j :: js, o :: os => H[j]? = some (o.ren m) ∧ viewL m H js os
  | [], [] => True
  | _, _ => False
theorem viewL.len {m : List Nat} {H : List AO} : ∀ {js : List Nat} {os : List AO}, viewL m H js os → js.length = os.length
  | [], [], _ => rfl
  | _ :: _, _ :: _, h => by simp [viewL.len h.2]
  | [], _ :: _, h => h.elim
  | _ :: _, [], h => h.elim
theorem viewL.ent {m : List Nat} {H : List AO} : ∀ {js : List Nat} {os : List AO}, viewL m H js os → ∀ (i j : Nat) (o : AO), js[i]? = some j → os[i]? = some o → H[j]? = some (o.ren m)
  | _ :: _, _ :: _, h, 0, _, _, e1, e2 => by cases e1; cases e2; exact h.1
  | _ :: _, _ :: _, h, i + 1, j, o, e1, e2 => viewL.ent h.2 i j o (by simpa using e1) (by simpa using e2)
  | [], [], _, i, _, _, e1, _ => by simp at e1
  | [], _ :: _, h, _, _, _, _, _ => h.elim
  | _ :: _, [], h, _, _, _, _, _ => h.elim
theorem View.of {m : List Nat} {L H : List AO} (nd : m.Nodup) (h : viewL m H m L) : View m L H where
  nd := nd
  len := h.len
  inr := fun j hj => by
    obtain ⟨i, hi⟩ := List.getElem?_of_mem hj
    have hl : i < L.length := by rw [← h.len]; exact (List.getElem?_eq_some_iff.mp hi).1
    exact (List.getElem?_eq_some_iff.mp (h.ent i j L[i] hi (List.getElem?_eq_getElem hl))).1
  ent := h.ent

theorem Ite.strIt {j i : Nat} {x : Str} {Q : V → List AO → Prop} (hj : H[j]? = some (Mine.strIt x i)) (h : Q (.ref j) H) : Ite W n H (.ref j) Q := fun ρ _ ⟨a, ha, e⟩ A s r hs g => by
  subst e
  obtain ⟨o, y, z, ho, hc, hd, ⟨t, e1⟩, e2⟩ := hs.fields2 ha hj
  subst e1
  have e2 : z = .int i 0 := e2
  subst e2
  exact wpAny_pyIter_striter_ascii ⟨o, ho, hc, hd⟩ ⟨ρ, H, .refl hs, .ref j, ⟨a, ha, rfl⟩, h⟩
theorem Ite.rngIt {j : Nat} {x l : Int} {Q : V → List AO → Prop} (hj : H[j]? = some (Mine.rngIt x l)) (h : Q (.ref j) H) : Ite W n H (.ref j) Q := fun ρ _ ⟨a, ha, e⟩ A s r hs g => by
  subst e
  exact wpAny_pyIter_rangeiter (hs.rngIt ha hj) ⟨ρ, H, .refl hs, .ref j, ⟨a, ha, rfl⟩, h⟩

end
end Mine

-- FILE D1
open PySem PySem.W PyProof.Rows
set_option Elab.async false
set_option autoImplicit false
set_option maxRecDepth 100000
namespace Mine
noncomputable def Upd (Q : List AO → Prop) (H : List AO) (i : Nat) (o : AO) : Prop := Q (H.set i o)
section
variable {W : Wd} {P : Params} {gl : Str → Option Value} {n : Nat} {H H' : List AO} {ae : AE} {o : AO} {k i : Nat} {x y : Str} {v u : V} {m m' r r' : List (Str × V)}

theorem Met.index {x : Str} {Q : V → List V → List AO → Prop} (h : Q (.bi "str.index") [.str x] H) : Met W n H (.str x) "index" Q := Met.str F.slot_str_index (by show builtinType _ = _; rw [builtinType_eq_fast]; kernel_rfl) h
theorem Met.join {x : Str} {Q : V → List V → List AO → Prop} (h : Q (.bi "str.join") [.str x] H) : Met W n H (.str x) "join" Q := Met.str F.slot_str_join (by show builtinType _ = _; rw [builtinType_eq_fast]; kernel_rfl) h
theorem Met.count {x : Str} {Q : V → List V → List AO → Prop} (h : Q (.bi "str.count") [.str x] H) : Met W n H (.str x) "count" Q := Met.str F.slot_str_count (by show builtinType _ = _; rw [builtinType_eq_fast]; kernel_rfl) h
theorem Met.append {l : Nat} {vs : List V} {Q : V → List V → List AO → Prop} (hl : H[l]? = some (.lst vs)) (h : Q (.bi "list.append") [.ref l] H) : Met W n H (.ref l) "append" Q := Met.lst hl F.slot_list_append (by show builtinType _ = _; rw [builtinType_eq_fast]; kernel_rfl) h
theorem Met.insert {l : Nat} {vs : List V} {Q : V → List V → List AO → Prop} (hl : H[l]? = some (.lst vs)) (h : Q (.bi "list.insert") [.ref l] H) : Met W n H (.ref l) "insert" Q := Met.lst hl F.slot_list_insert (by show builtinType _ = _; rw [builtinType_eq_fast]; kernel_rfl) h
theorem Met.pop {l : Nat} {vs : List V} {Q : V → List V → List AO → Prop} (hl : H[l]? = some (.lst vs)) (h : Q (.bi "list.pop") [.ref l] H) : Met W n H (.ref l) "pop" Q := Met.lst hl F.slot_list_pop (by show builtinType _ = _; rw [builtinType_eq_fast]; kernel_rfl) h
theorem Met.reverse {l : Nat} {vs : List V} {Q : V → List V → List AO → Prop} (hl : H[l]? = some (.lst vs)) (h : Q (.bi "list.reverse") [.ref l] H) : Met W n H (.ref l) "reverse" Q := Met.lst hl F.slot_list_reverse (by show builtinType _ = _; rw [builtinType_eq_fast]; kernel_rfl) h
theorem Met.bitLength {x : Int} {Q : V → List V → List AO → Prop} (h : Q (.bi "int.bit_length") [.int x] H) : Met W n H (.int x) "bit_length" Q := Met.int F.slot_int_bit_length (by show builtinType _ = _; rw [builtinType_eq_fast]; kernel_rfl) h
end
end Mine

-- FILE D2
open PySem PySem.W PyProof.Rows
set_option Elab.async false
set_option autoImplicit false
set_option maxRecDepth 100000
namespace Mine
section
variable {W : Wd} {P : Params} {gl : Str → Option Value} {n : Nat} {H H1 H2 : List AO} {ae : AE} {o o' : AO} {k i j : Nat} {x y : Str} {v u : V}
noncomputable def sg : Nat → Nat | 0 => 97 | 1 => 34 | 2 => 92 | _ => 10
noncomputable def wd (p q r : Nat) : Str := ⟨#[sg p, sg q, sg r]⟩
/-- a frame -/
noncomputable def frm (nm : List (Str × NameKind)) (ex : List (Str × Const)) (q : Str) (co : Option Addr) (k : Nat) (cs : List (Str × Nat)) : AE := ⟨⟨.function, nm, false, false, ex⟩, k, cs, q, co⟩
section
variable {q : Str} {co : Option Addr} {nm : List (Str × NameKind)} {ex : List (Str × Const)} {cs : List (Str × Nat)} {kd : NameKind} {m : List (Str × V)}
end
theorem Binds.nil {Q : List AO → Prop} (h : Q H) : Binds W n ae [] H Q := h
theorem Binds.cons {bs : List (Str × V)} {Q : List AO → Prop} (h : St W n ae H x v fun H1 => Binds W n ae bs H1 Q) : Binds W n ae ((x, v) :: bs) H Q := h
section
variable {q : Str} {co : Option Addr} {nm nm' sn r r' : List (Str × NameKind)} {ex ex' : List (Str × Const)} {cs cs' : List (Str × Nat)} {kd : NameKind}
end
theorem Cl.fnN (hB : Base W gl) {f : V} {a : Addr} {as : List V} {kn : List Str} {kv : List V} {bs : List (Str × V)} {Q : V → List AO → Prop} {cs : List (Str × Nat)} {b : List Stmt} {nm : List (Str × NameKind)} {ex : List (Str × Const)} {q : Str}
    (hf : Callable W H f (ci P a)) (hb : Bnd W n H (ci P a) as kn kv bs) (hbd : (ci P a).body = .stmts b) (hsc : (ci P a).scope = ⟨.function, nm, false, false, ex⟩)
    (hq : (ci P a).qual = q) (hk : H.length = k) (hH : H ++ [.ns []] = H1) (hl : layC nm (ci P a).cells H1 = (cs, H2))
    (h : Binds W n (frm nm ex (q ++ ".<locals>.") (ci P a).code k cs) bs H2 fun H1 => Exs W n (frm nm ex (q ++ ".<locals>.") (ci P a).code k cs) H1 b fun fl H2 => Q (match fl with | .ret v => v | _ => .none) H2) : Cl W (n + 1) H f as kn kv Q := by
  subst hk hH hq
  refine Cl.fn hB hf hb (by rw [hsc]) (by rw [hsc]) ?_
  have e : calleeAE (ci P a).scope (ci P a).cells ((ci P a).qual ++ ".<locals>.") (ci P a).code H = frm nm ex ((ci P a).qual ++ ".<locals>.") (ci P a).code H.length cs := by
    unfold calleeAE frm
    rw [hsc, hl]
  rw [e, hbd, hsc, hl]
  exact h
end
end Mine

-- FILE R0
open PySem PySem.W PyProof.Rows
set_option Elab.async false
set_option autoImplicit false
set_option maxRecDepth 100000
set_option pp.deepTerms.threshold 8
set_option pp.maxSteps 3000
namespace Mine
section
variable {W : Wd} {P : Params} {gl : Str → Option Value} {n k : Nat} {H H1 H2 : List AO}
/-- a function defined in a function: the statement at the place i -/
noncomputable def fnIn (P : Params) (a : Addr) (i : Nat) (cells : List (Str × Nat)) : AFn := match (ci P a).body with
  | .stmts l => (match l[i]? with
    | some (.FunctionDef name params body _ _ _ scope _ _ _) => { name, qual := (ci P a).qual ++ ".<locals>." ++ name, params, body := .stmts body, scope, cells, dict := Option.none }
    | _ => ⟨"", "", ⟨[], [], none, [], [], none, []⟩, .stmts [], ⟨.function, [], false, false, []⟩, cells, Option.none⟩)
  | _ => ⟨"", "", ⟨[], [], none, [], [], none, []⟩, .stmts [], ⟨.function, [], false, false, []⟩, cells, Option.none⟩
theorem Cl.fnC (hB : Base W gl) {f : V} {c : CInfo} {as : List V} {kn : List Str} {kv : List V} {bs : List (Str × V)} {Q : V → List AO → Prop} {cs : List (Str × Nat)} {b : List Stmt} {nm : List (Str × NameKind)} {ex : List (Str × Const)} {q : Str}
    (hf : Callable W H f c) (hb : Bnd W n H c as kn kv bs) (hbd : c.body = .stmts b) (hsc : c.scope = ⟨.function, nm, false, false, ex⟩)
    (hq : c.qual = q) {cl : List (Str × Nat)} (hcl : c.cells = cl) (hk : H.length = k) (hH : H ++ [.ns []] = H1) (hl : layC nm cl H1 = (cs, H2))
    (h : Binds W n (frm nm ex (q ++ ".<locals>.") c.code k cs) bs H2 fun H1 => Exs W n (frm nm ex (q ++ ".<locals>.") c.code k cs) H1 b fun fl H2 => Q (match fl with | .ret v => v | _ => .none) H2) : Cl W (n + 1) H f as kn kv Q := by
  subst hk hH hq hcl
  refine Cl.fn hB hf hb (by rw [hsc]) (by rw [hsc]) ?_
  have e : calleeAE c.scope c.cells (c.qual ++ ".<locals>.") c.code H = frm nm ex (c.qual ++ ".<locals>.") c.code H.length cs := by
    unfold calleeAE frm
    rw [hsc, hl]
  rw [e, hbd, hsc, hl]
  exact h
theorem Ex.def' {ae : AE} (hB : Base W gl) {c PP : Addr} {name : Str} {params : Arguments} {body : List Stmt} {scope : Scope} {pos : Pos} {cs : List (Str × Nat)} {Q : Fl → List AO → Prop} {f : AFn}
    (hC : Coded W c PP (ae.qual ++ name)) (hcode : ae.code = some c) (hd : ∀ env, defaultsOf params env = ([], [])) (hkw : params.kwonlyargs = [])
    (han : ∀ env, annotationsOf (params.args ++ params.posonlyargs ++ params.vararg.toList ++ params.kwonlyargs ++ params.kwarg.toList) env = []) (hcl : closA ae.cells scope.names [] = some cs)
    (hk : (ae.scope.names.lookup name == some .globalExplicit) = false) (hf : f = { name, qual := ae.qual ++ name, params, body := .stmts body, scope, cells := cs, dict := Option.none }) (hl : H.length = k) (hH : H ++ [.fn f] = H1)
    (h : St W n ae H1 name (.ref k) fun H1 => Q .next H1) :
    Ex W n ae H (.FunctionDef name params body [] none [] scope none name pos) Q := by
  subst hf hl hH
  exact Ex.def hB hC hcode hd hkw han hcl hk h
theorem Ex.ret0 {ae : AE} {pos : Pos} {Q : Fl → List AO → Prop} (h : Q (.ret .none) H) : Ex W n ae H (.Return none pos) Q := fun ρ env E => by
  rw [arm_exec_Return]
  refine .stand ?_
  exact .pur ⟨.ret .none, ⟨_, rfl, rfl⟩, h⟩
theorem Sit.ints {l k : Nat} {us : List Int} {x : Int} {Q : List AO → Prop} (hl : H[l]? = some (.lst (us.map V.int))) (hk : k < us.length) (hz : us.length ≤ 1000000) (h : Upd Q H l (.lst ((us.set k x).map V.int))) : Sit W n H (.ref l) (.int k) (.int x) Q :=
  Sit.lst hl (by simpa using hk) (by simpa using hz) (by rw [List.map_set] at h; exact h)
end
end Mine

-- FILE N1
open PySem PySem.W PyProof.Rows
set_option Elab.async false
set_option autoImplicit false
set_option maxRecDepth 100000
namespace Mine
structure Raw (p : Prop) : Prop where
  mk :: (out : p)
/-- a condition that is always shown by hand -/
structure Gate (c : Bool) (A : Prop) : Prop where
  mk :: (cond : c = true) (rest : A)
noncomputable def optP {α : Type} (o : Option α) (S : α → Prop) : Prop := Option.rec False S o
theorem optP_el {α : Type} {o : Option α} {S : α → Prop} (h : optP o S) : ∃ a, o = some a ∧ S a := by
  induction o with
  | none => exact h.elim
  | some a => exact ⟨a, rfl, h⟩
noncomputable def brP (c : Bool) (T F : Prop) : Prop := Bool.rec F T c
theorem brP.mk {c : Bool} {T F : Prop} (t : c = true → T) (f : c = false → F) : brP c T F := by induction c; exact f rfl; exact t rfl
theorem brP_el {c : Bool} {T F : Prop} (h : brP c T F) : (c = true → T) ∧ (c = false → F) := by induction c; exact ⟨fun e => (nomatch e), fun _ => h⟩; exact ⟨fun _ => h, fun e => (nomatch e)⟩
noncomputable def gate (c : Bool) (A : Prop) : Prop := Bool.rec False A c
theorem gate.mk {c : Bool} {A : Prop} (e : c = true) (h : A) : gate c A := by subst e; exact h
theorem gate_el {c : Bool} {A : Prop} (h : gate c A) : c = true ∧ A := by induction c; exact h.elim; exact ⟨rfl, h⟩
noncomputable def onNat (i : Int) (k : Nat → Prop) : Prop := match i with | .ofNat n => k n | _ => False
theorem onNat_el {i : Int} {k : Nat → Prop} (h : onNat i k) : ∃ n : Nat, i = n ∧ k n := by
  induction i with
  | ofNat n => exact ⟨n, rfl, h⟩
  | negSucc n => exact h.elim
theorem onNat.mk {i : Int} {n : Nat} {k : Nat → Prop} (e : i = n) (h : k n) : onNat i k := by subst e; exact h
noncomputable def lk {α : Type} (x : Str) : List (Str × α) → Option α
  | [] => none
  | (y, v) :: r => Bool.rec (lk x r) (some v) (Fast.sEq x y)
theorem lk_c {α : Type} {x y : Str} {v : α} {r : List (Str × α)} : lk x ((y, v) :: r) = Bool.rec (lk x r) (some v) (Fast.sEq x y) := rfl
theorem lk_eq {α : Type} {x : Str} : ∀ {m : List (Str × α)}, lk x m = m.lookup x
  | [] => rfl
  | (y, v) :: r => by
    rw [lk_c, List.lookup_cons]
    cases h : Fast.sEq x y with
    | true =>
      have := Fast.sEq_iff.mp h
      subst this
      simp
    | false =>
      have : (x == y) = false := beq_eq_false_iff_ne.mpr fun e => by rw [Fast.sEq_iff.mpr e] at h; cases h
      rw [this]
      exact lk_eq
noncomputable def getK : List AO → Nat → (AO → Prop) → Prop
  | [], _, _ => False
  | o :: _, 0, k => k o
  | _ :: l, i + 1, k => getK l i k
theorem getK_el : ∀ {H : List AO} {i : Nat} {k : AO → Prop}, getK H i k → ∃ o, H[i]? = some o ∧ k o
  | [], _, _, h => h.elim
  | o :: _, 0, _, h => ⟨o, rfl, h⟩
  | _ :: l, i + 1, k, h => getK_el (H := l) (i := i) (k := k) h
noncomputable def nthK : List V → Nat → (V → Prop) → Prop
  | [], _, _ => False
  | o :: _, 0, k => k o
  | _ :: l, i + 1, k => nthK l i k
theorem nthK_el : ∀ {H : List V} {i : Nat} {k : V → Prop}, nthK H i k → ∃ o, H[i]? = some o ∧ k o
  | [], _, _, h => h.elim
  | o :: _, 0, _, h => ⟨o, rfl, h⟩
  | _ :: l, i + 1, k, h => nthK_el (H := l) (i := i) (k := k) h
noncomputable def setK : List AO → Nat → AO → (List AO → Prop) → Prop
  | [], _, _, k => k []
  | _ :: l, 0, o, k => k (o :: l)
  | a :: l, i + 1, o, k => setK l i o fun l' => k (a :: l')
theorem setK_eq : ∀ {H : List AO} {i : Nat} {o : AO} {k : List AO → Prop}, setK H i o k = k (H.set i o)
  | [], _, _, _ => rfl
  | _ :: _, 0, _, _ => rfl
  | a :: l, i + 1, o, k => setK_eq (H := l) (i := i) (o := o) (k := fun l' => k (a :: l'))
noncomputable def snocK : List AO → AO → (List AO → Prop) → Prop
  | [], o, k => k [o]
  | a :: l, o, k => snocK l o fun l' => k (a :: l')
theorem snocK_eq : ∀ {H : List AO} {o : AO} {k : List AO → Prop}, snocK H o k = k (H ++ [o])
  | [], _, _ => rfl
  | a :: l, o, k => snocK_eq (H := l) (o := o) (k := fun l' => k (a :: l'))
noncomputable def lenK : List AO → Nat → (Nat → Prop) → Prop
  | [], n, k => k n
  | _ :: l, n, k => lenK l (n + 1) k
theorem lenK_eq : ∀ {H : List AO} {n : Nat} {k : Nat → Prop}, lenK H n k = k (n + H.length)
  | [], _, _ => rfl
  | _ :: l, n, k => by
    show lenK l (n + 1) k = _
    rw [lenK_eq, List.length_cons, Nat.add_assoc, Nat.add_comm 1]
noncomputable def newK (H : List AO) (o : AO) (Q : V → List AO → Prop) : Prop := lenK H 0 fun n => snocK H o fun H' => Q (.ref n) H'
theorem newK_eq {H : List AO} {o : AO} {Q : V → List AO → Prop} : newK H o Q = Q (.ref H.length) (H ++ [o]) := by
  unfold newK
  rw [lenK_eq, snocK_eq, Nat.zero_add]
noncomputable def putK (x : Str) (v : V) : List (Str × V) → (List (Str × V) → Prop) → Prop
  | [], k => k [(x, v)]
  | (y, u) :: r, k => Bool.rec (putK x v r fun r' => k ((y, u) :: r')) (k ((y, v) :: r)) (Fast.sEq y x)
theorem putK_eq {x : Str} {v : V} : ∀ {m : List (Str × V)} {k : List (Str × V) → Prop}, putK x v m k = k (put x v m)
  | [], _ => rfl
  | (y, u) :: r, k => by
    show Bool.rec (putK x v r fun r' => k ((y, u) :: r')) (k ((y, v) :: r)) (Fast.sEq y x) = k (if y = x then (y, v) :: r else (y, u) :: put x v r)
    cases h : Fast.sEq y x with
    | true => rw [if_pos (Fast.sEq_iff.mp h)]
    | false =>
      rw [if_neg fun e => by rw [Fast.sEq_iff.mpr e] at h; cases h]
      exact putK_eq (m := r)
noncomputable def nsP (o : AO) (k : List (Str × V) → Prop) : Prop := match o with | .ns m => k m | _ => False
theorem nsP_el {o : AO} {k : List (Str × V) → Prop} (h : nsP o k) : ∃ m, o = .ns m ∧ k m := by induction o <;> first | exact h.elim | exact ⟨_, rfl, h⟩
noncomputable def cellP (o : AO) (k : Option V → Prop) : Prop := match o with | .cell v => k v | _ => False
theorem cellP_el {o : AO} {k : Option V → Prop} (h : cellP o k) : ∃ m, o = .cell m ∧ k m := by induction o <;> first | exact h.elim | exact ⟨_, rfl, h⟩
noncomputable def lstP (o : AO) (k : List V → Prop) : Prop := match o with | .lst v => k v | _ => False
theorem lstP_el {o : AO} {k : List V → Prop} (h : lstP o k) : ∃ m, o = .lst m ∧ k m := by induction o <;> first | exact h.elim | exact ⟨_, rfl, h⟩
/-! what the global names mean -/
noncomputable def GlOk (W : Wd) (gt : List (Str × V)) : Prop := ∀ (n : Nat) (ae : AE) (H : List AO) (x : Str) (v : V) (Q : V → List AO → Prop), lk x gt = some v → ae.scope.kind = .function → ae.scope.names.lookup x = some .globalImplicit → Q v H → Ld W n ae H x Q
structure Cx where
  W : Wd
  n : Nat
  gt : List (Str × V)
  ok : GlOk W gt
noncomputable section
variable (c : Cx)
noncomputable def kindP (ae : AE) (A : Prop) : Prop := match ae.scope.kind with | .function => A | _ => False
noncomputable def ldK (ae : AE) (H : List AO) (x : Str) (Q : V → List AO → Prop) (kd : NameKind) : Prop := match kd with
  | .local => getK H ae.loc fun o => nsP o fun m => optP (lk x m) fun v => Q v H
  | .cell => optP (lk x ae.cells) fun i => getK H i fun o => cellP o fun v => optP v fun v => Q v H
  | .free => optP (lk x ae.cells) fun i => getK H i fun o => cellP o fun v => optP v fun v => gate (!Fast.sEq x "__classdict__") (Q v H)
  | .globalImplicit => optP (lk x c.gt) fun v => Q v H
  | _ => False
noncomputable def ldP (ae : AE) (H : List AO) (x : Str) (Q : V → List AO → Prop) : Prop := kindP ae (optP (lk x ae.scope.names) fun kd => ldK c ae H x Q kd)
noncomputable def stK (ae : AE) (H : List AO) (x : Str) (v : V) (Q : List AO → Prop) (kd : NameKind) : Prop := match kd with
  | .local => getK H ae.loc fun o => nsP o fun m => putK x v m fun m' => setK H ae.loc (.ns m') Q
  | .cell => optP (lk x ae.cells) fun i => getK H i fun o => cellP o fun _ => setK H i (.cell (some v)) Q
  | _ => False
noncomputable def stP (ae : AE) (H : List AO) (x : Str) (v : V) (Q : List AO → Prop) : Prop := kindP ae (optP (lk x ae.scope.names) fun kd => stK ae H x v Q kd)
end
section
variable {c : Cx} {ae : AE} {H : List AO} {x : Str} {v : V}
theorem kindP_el {A : Prop} (h : kindP ae A) : ae.scope.kind = .function ∧ A := by
  unfold kindP at h
  cases e : ae.scope.kind <;> rw [e] at h <;> first | exact h.elim | exact ⟨rfl, h⟩
theorem ldP_el {Q : V → List AO → Prop} (h : ldP c ae H x Q) : Ld c.W c.n ae H x Q := by
  obtain ⟨hk, h⟩ := kindP_el h
  obtain ⟨kd, hl, h⟩ := optP_el h
  rw [lk_eq] at hl
  induction kd <;> first | exact h.elim | skip
  · obtain ⟨o, h1, h⟩ := getK_el h
    obtain ⟨m, rfl, h⟩ := nsP_el h
    obtain ⟨v, h2, h⟩ := optP_el h
    rw [lk_eq] at h2
    exact Ld.local hk hl h1 h2 h
  · obtain ⟨i, h1, h⟩ := optP_el h
    obtain ⟨o, h2, h⟩ := getK_el h
    obtain ⟨m, rfl, h⟩ := cellP_el h
    obtain ⟨v, rfl, h⟩ := optP_el h
    rw [lk_eq] at h1
    exact Ld.cell hk hl h1 h2 h
  · obtain ⟨i, h1, h⟩ := optP_el h
    obtain ⟨o, h2, h⟩ := getK_el h
    obtain ⟨m, rfl, h⟩ := cellP_el h
    obtain ⟨v, rfl, h⟩ := optP_el h
    obtain ⟨hc, h⟩ := gate_el h
    rw [lk_eq] at h1
    refine Ld.free hk hl h1 h2 h (beq_eq_false_iff_ne.mpr fun e => ?_)
    rw [Fast.sEq_iff.mpr e] at hc
    cases hc
  · obtain ⟨v, h1, h⟩ := optP_el h
    exact c.ok _ _ _ _ _ _ h1 hk hl h
theorem stP_el {W : Wd} {n : Nat} {Q : List AO → Prop} (h : stP ae H x v Q) : St W n ae H x v Q := by
  obtain ⟨hk, h⟩ := kindP_el h
  obtain ⟨kd, hl, h⟩ := optP_el h
  rw [lk_eq] at hl
  induction kd <;> first | exact h.elim | skip
  · obtain ⟨o, h1, h⟩ := getK_el h
    obtain ⟨m, rfl, h'⟩ := nsP_el h
    rw [putK_eq, setK_eq] at h'
    exact St.local hk hl h1 h'
  · obtain ⟨i, h1, h⟩ := optP_el h
    obtain ⟨o, h2, h⟩ := getK_el h
    obtain ⟨m, rfl, h'⟩ := cellP_el h
    rw [lk_eq] at h1
    rw [setK_eq] at h'
    exact St.cell hk hl h1 h2 h'
end
end Mine

-- FILE N2
open PySem PySem.W PyProof.Rows
set_option Elab.async false
set_option autoImplicit false
set_option maxRecDepth 100000
namespace Mine
noncomputable section
variable (c : Cx)
noncomputable def fitB (a : Int) : Bool := decide (-(2 ^ 64) < a) && decide (a < 2 ^ 64)
noncomputable def binP (H : List AO) (op : Operator) (a b : V) (Q : V → List AO → Prop) : Prop := match a, b with
  | .int a, .int b => (match op with
    | .Add => Q (.int (a + b)) H
    | .Sub => Q (.int (a - b)) H
    | .Mult => Gate (fitB a || fitB b) (Q (.int (a * b)) H)
    | .FloorDiv => gate (b != 0 && decide (b.natAbs < 1073741824)) (Q (.int (a.fdiv b)) H)
    | .Mod => gate (b != 0) (Q (.int (a.fmod b)) H)
    | .RShift => gate (decide (0 ≤ b)) (Q (.int (a.fdiv (2 ^ b.toNat))) H)
    | .LShift => gate (decide (0 ≤ b) && decide ((Builtin.Int.intBits a : Int) + b ≤ 2 ^ 27)) (Q (.int (a * 2 ^ b.toNat)) H)
    | .BitXor => Q (.int (Builtin.bitXor a b)) H
    | .Pow => gate (decide (0 ≤ b) && decide ((Builtin.Int.intBits a : Int) * b ≤ 2 ^ 27)) (Q (.int (a ^ b.toNat)) H)
    | .Div => Gate (b != 0 && !Float64.isInf (fracF a b)) (Q (.flt (fracF a b)) H)
    | op => Raw (Bin c.W c.n H op (.int a) (.int b) Q))
  | .flt a, .flt b => (match op with
    | .Add => Q (.flt (Float64.add a b)) H
    | .Sub => Q (.flt (Float64.sub a b)) H
    | .Mult => Q (.flt (Float64.mul a b)) H
    | .Div => Gate (!Float64.isZero b) (Q (.flt (Float64.div a b)) H)
    | .Mod => Gate (!Float64.isZero b) (Q (.flt (Float64.divmod a b).snd) H)
    | op => Raw (Bin c.W c.n H op (.flt a) (.flt b) Q))
  | .flt a, .int b => (match op with
    | .Mult => Gate (!Float64.isInf (Float64.ofInt b)) (Q (.flt (Float64.mul a (Float64.ofInt b))) H)
    | op => Raw (Bin c.W c.n H op (.flt a) (.int b) Q))
  | .str x, .str y => (match op with
    | .Add => Gate (decide (x.length + y.length ≤ 16777216)) (Q (.str (x ++ y)) H)
    | op => Raw (Bin c.W c.n H op (.str x) (.str y) Q))
  | a, b => Raw (Bin c.W c.n H op a b Q)
noncomputable def inpP (H : List AO) (op : Operator) (a b : V) (Q : V → List AO → Prop) : Prop := match a, b, op with
  | .int a, .int b, .Add => Q (.int (a + b)) H
  | .str x, .str y, .Add => Gate (decide (x.length + y.length ≤ 16777216)) (Q (.str (x ++ y)) H)
  | a, b, op => Raw (InP c.W c.n H op a b Q)
noncomputable def unP (H : List AO) (op : UnaryOp) (a : V) (Q : V → List AO → Prop) : Prop := match op, a with
  | .USub, .int a => Q (.int (-a)) H
  | .Invert, .int a => Q (.int (Builtin.bitNot a)) H
  | op, a => Raw (Un c.W c.n H op a Q)
noncomputable def cmpP (H : List AO) (op : CmpOp) (a b : V) (Q : V → List AO → Prop) : Prop := match a, b with
  | .int a, .int b => optP (cmpI op a b) fun r => Q (.bool r) H
  | .flt a, .flt b => optP (cmpF op a b) fun r => Q (.bool r) H
  | .str a, .str b => (match op with
    | .Eq => Q (.bool (a.cps.toList == b.cps.toList)) H
    | .NotEq => Q (.bool (a.cps.toList != b.cps.toList)) H
    | .In => Q (.bool (Txt.contains b a)) H
    | op => Raw (Cmp c.W c.n H op (.str a) (.str b) Q))
  | .none, .none => (match op with
    | .Is => Q (.bool true) H
    | op => Raw (Cmp c.W c.n H op .none .none Q))
  | .gref a, .none => (match op with
    | .Is => Q (.bool false) H
    | op => Raw (Cmp c.W c.n H op (.gref a) .none Q))
  | .ref a, .none => (match op with
    | .Is => Q (.bool false) H
    | op => Raw (Cmp c.W c.n H op (.ref a) .none Q))
  | a, b => Raw (Cmp c.W c.n H op a b Q)
noncomputable def truP (H : List AO) (a : V) (Q : Bool → List AO → Prop) : Prop := match a with
  | .bool b => Q b H
  | .int a => Q (a != 0) H
  | .ref l => getK H l fun o => lstP o fun vs => gate (decide (vs.length ≤ 1000000)) (Q (!vs.isEmpty) H)
  | a => Raw (Tru c.W c.n H a Q)
noncomputable def seqP (o : AO) (k : List V → Prop) : Prop := match o with | .lst v => k v | .tup v => k v | _ => False
noncomputable def gitP (H : List AO) (o i : V) (Q : V → List AO → Prop) : Prop := match o, i with
  | .ref l, .int k => getK H l fun o => seqP o fun vs => onNat k fun k => nthK vs k fun v => gate (decide (k < 1000000)) (Q v H)
  | .str x, .int k => gate (fitsSsize k) (optP (Txt.charAt x k) fun d => Q (.str ⟨#[d]⟩) H)
  | o, i => Raw (GiP c.W c.n H o ∧ Git c.W c.n H o i Q)
end
section
variable {c : Cx} {ae : AE} {H : List AO} {x : Str} {v : V}
theorem fitB_el {a : Int} (h : fitB a = true) : Fits a := by
  unfold fitB at h
  obtain ⟨h1, h2⟩ := Bool.and_eq_true_iff.mp h
  exact ⟨of_decide_eq_true h1, of_decide_eq_true h2⟩
theorem fitB_or {a b : Int} (h : (fitB a || fitB b) = true) : Fits a ∨ Fits b := (Bool.or_eq_true_iff.mp h).imp fitB_el fitB_el
theorem bne0 {b : Int} (h : (b != 0) = true) : b ≠ 0 := by simpa using h
theorem not_t {b : Bool} (h : (!b) = true) : b = false := by simpa using h
theorem len_le {x y : Str} (h : decide (x.length + y.length ≤ 16777216) = true) : x.length + y.length ≤ sizeLine := by rw [sizeLine_val]; exact of_decide_eq_true h
theorem binP_el {op : Operator} {a b : V} {Q : V → List AO → Prop} (h : binP c H op a b Q) : Bin c.W c.n H op a b Q := by
  induction a <;> first | exact h.out | (induction b <;> first | exact h.out | (induction op <;> first | exact h.out | skip))
  case int.int.Add => exact .addI h
  case int.int.Sub => exact .subI h
  case int.int.Mult => obtain ⟨e, h⟩ := h; exact .mulI h (fitB_or e)
  case int.int.FloorDiv =>
    obtain ⟨e, h⟩ := gate_el h
    obtain ⟨e1, e2⟩ := Bool.and_eq_true_iff.mp e
    exact .divI h (bne0 e1) (of_decide_eq_true e2)
  case int.int.Mod => obtain ⟨e, h⟩ := gate_el h; exact .modI h (bne0 e)
  case int.int.RShift => obtain ⟨e, h⟩ := gate_el h; exact .shrI h (of_decide_eq_true e)
  case int.int.LShift =>
    obtain ⟨e, h⟩ := gate_el h
    obtain ⟨e1, e2⟩ := Bool.and_eq_true_iff.mp e
    exact .shlI h (of_decide_eq_true e1) (of_decide_eq_true e2)
  case int.int.BitXor => exact .xorI h
  case int.int.Pow =>
    obtain ⟨e, h⟩ := gate_el h
    obtain ⟨e1, e2⟩ := Bool.and_eq_true_iff.mp e
    exact .powI h (of_decide_eq_true e1) (of_decide_eq_true e2)
  case int.int.Div =>
    obtain ⟨e, h⟩ := h
    obtain ⟨e1, e2⟩ := Bool.and_eq_true_iff.mp e
    exact .tdivI h (bne0 e1) (not_t e2)
  case flt.flt.Add => exact .addF h
  case flt.flt.Sub => exact .subF h
  case flt.flt.Mult => exact .mulF h
  case flt.flt.Div => obtain ⟨e, h⟩ := h; exact .divF h (not_t e)
  case flt.flt.Mod => obtain ⟨e, h⟩ := h; exact .modF h (not_t e)
  case flt.int.Mult => obtain ⟨e, h⟩ := h; exact .mulFI h (not_t e)
  case str.str.Add => obtain ⟨e, h⟩ := h; exact .addS h (len_le e)
theorem inpP_el {op : Operator} {a b : V} {Q : V → List AO → Prop} (h : inpP c H op a b Q) : InP c.W c.n H op a b Q := by
  induction a <;> first | exact h.out | (induction b <;> first | exact h.out | (induction op <;> first | exact h.out | skip))
  case int.int.Add => exact .addI h
  case str.str.Add => obtain ⟨e, h⟩ := h; exact .addS h (len_le e)
theorem unP_el {op : UnaryOp} {a : V} {Q : V → List AO → Prop} (h : unP c H op a Q) : Un c.W c.n H op a Q := by
  induction op <;> first | exact h.out | (induction a <;> first | exact h.out | skip)
  case USub.int => exact .negI h
  case Invert.int => exact .invI h
theorem Cmp.isNN {W : Wd} {n : Nat} {Q : V → List AO → Prop} (h : Q (.bool true) H) : Cmp W n H .Is .none .none Q := fun ρ x y e1 e2 => by
  cases e1; cases e2
  exact .quiet fun A s r hs g => is_none_none ⟨rfl, rfl, rfl, .bool true, rfl, h⟩
theorem Cmp.isGN {W : Wd} {n : Nat} {a : Addr} {Q : V → List AO → Prop} (h : Q (.bool false) H) : Cmp W n H .Is (.gref a) .none Q := fun ρ x y e1 e2 => by
  cases e1; cases e2
  exact .quiet fun A s r hs g => is_ref_none ⟨rfl, rfl, rfl, .bool false, rfl, h⟩
theorem Cmp.isRN {W : Wd} {n : Nat} {a : Nat} {Q : V → List AO → Prop} (h : Q (.bool false) H) : Cmp W n H .Is (.ref a) .none Q := fun ρ x y ⟨b, _, e1⟩ e2 => by
  cases e1; cases e2
  exact .quiet fun A s r hs g => is_ref_none ⟨rfl, rfl, rfl, .bool false, rfl, h⟩
theorem cmpP_el {op : CmpOp} {a b : V} {Q : V → List AO → Prop} (h : cmpP c H op a b Q) : Cmp c.W c.n H op a b Q := by
  induction a <;> first | exact h.out | (induction b <;> first | exact h.out | skip)
  case int.int => obtain ⟨r, e, h⟩ := optP_el h; exact .int e h
  case flt.flt => obtain ⟨r, e, h⟩ := optP_el h; exact .flt e h
  case str.str =>
    induction op <;> first | exact h.out | skip
    case Eq => exact .eqS h
    case NotEq => exact .neS h
    case In => exact .inS h
  case none.none => induction op <;> first | exact h.out | exact .isNN h
  case gref.none => induction op <;> first | exact h.out | exact .isGN h
  case ref.none => induction op <;> first | exact h.out | exact .isRN h
theorem truP_el {a : V} {Q : Bool → List AO → Prop} (h : truP c H a Q) : Tru c.W c.n H a Q := by
  induction a <;> first | exact h.out | skip
  case bool => exact .bool h
  case int => exact .int h
  case ref =>
    obtain ⟨o, h1, h⟩ := getK_el h
    obtain ⟨vs, rfl, h⟩ := lstP_el h
    obtain ⟨e, h⟩ := gate_el h
    exact .lst h1 (of_decide_eq_true e) h
theorem gitP_el {o i : V} {Q : V → List AO → Prop} (h : gitP c H o i Q) : GiP c.W c.n H o ∧ Git c.W c.n H o i Q := by
  induction o <;> first | exact h.out | (induction i <;> first | exact h.out | skip)
  case ref.int =>
    obtain ⟨o, h1, h⟩ := getK_el h
    induction o <;> first | exact h.elim | skip
    · obtain ⟨k, e0, h⟩ := onNat_el h
      obtain ⟨v, h2, h⟩ := nthK_el h
      obtain ⟨e, h⟩ := gate_el h
      rw [e0]
      exact ⟨.lst h1, .lst h1 h2 (of_decide_eq_true e) h⟩
    · obtain ⟨k, e0, h⟩ := onNat_el h
      obtain ⟨v, h2, h⟩ := nthK_el h
      obtain ⟨e, h⟩ := gate_el h
      rw [e0]
      exact ⟨.tup h1, .tup h1 h2 (of_decide_eq_true e) h⟩
  case str.int =>
    obtain ⟨e, h⟩ := gate_el h
    obtain ⟨d, e2, h⟩ := optP_el h
    exact ⟨.str, .str e e2 h⟩
end
end Mine

-- FILE N3
open PySem PySem.W PyProof.Rows
set_option Elab.async false
set_option autoImplicit false
set_option maxRecDepth 100000
namespace Mine
noncomputable section
noncomputable def onInt (a : V) (k : Int → Prop) (z : Prop) : Prop := match a with | .int i => k i | _ => z
noncomputable def onFlt (a : V) (k : UInt64 → Prop) (z : Prop) : Prop := match a with | .flt i => k i | _ => z
noncomputable def onStr (a : V) (k : Str → Prop) (z : Prop) : Prop := match a with | .str i => k i | _ => z
noncomputable def onRef (a : V) (k : Nat → Prop) (z : Prop) : Prop := match a with | .ref i => k i | _ => z
noncomputable def onBool (a : V) (k : Bool → Prop) (z : Prop) : Prop := match a with | .bool i => k i | _ => z
noncomputable def strsOf : List V → Option (List Str)
  | [] => some []
  | .str s :: r => (strsOf r).map (s :: ·)
  | _ => none
noncomputable def intsOf : List V → Option (List Int)
  | [] => some []
  | .int s :: r => (intsOf r).map (s :: ·)
  | _ => none
noncomputable def headP (l : List Nat) (k : Nat → Prop) : Prop := match l with | i :: _ => k i | [] => False
noncomputable def finP (d : Float64.Num) (k : Bool → Nat → Int → Prop) : Prop := match d with | .fin sg m e => k sg m e | _ => False
noncomputable def lstQ (o : AO) (k : List V → Prop) (z : Prop) : Prop := match o with | .lst vs => k vs | _ => z
variable (c : Cx)
variable (H : List AO) (s : String) (Q : V → List AO → Prop)
noncomputable def b1R (l : Nat) : Prop := getK H l fun o => lstP o fun vs => brP (s == "sum") (optP (intsOf vs) fun ns => Q (.int ns.sum) H) <| gate (decide (vs.length ≤ 1000000)) <| brP (s == "len") (Q (.int vs.length) H) (brP (s == "list.reverse") (setK H l (.lst vs.reverse) (Q .none)) (Raw (Cl c.W c.n H (.bi s) [.ref l] [] [] Q)))
noncomputable def b1I (i : Int) : Prop := brP (s == "abs") (Q (.int (if i < 0 then -i else i)) H) (brP (s == "int.bit_length") (Q (.int (Builtin.Int.intBits i)) H) False)
noncomputable def b2R (b : V) (l : Nat) : Prop := getK H l fun o => lstQ o (fun vs => gate (decide (vs.length ≤ 1000000)) <| brP (s == "list.append") (setK H l (.lst (vs ++ [b])) (Q .none)) (brP (s == "list.pop") (match vs with | v :: r => onInt b (fun i => gate (i == 0) (setK H l (.lst r) (Q v))) False | _ => False) (Raw (Cl c.W c.n H (.bi s) [.ref l, b] [] [] Q)))) (Raw (Cl c.W c.n H (.bi s) [.ref l, b] [] [] Q))
noncomputable def b2I (i j : Int) : Prop := brP (s == "max") (Q (.int (if j > i then j else i)) H) (brP (s == "min") (Q (.int (if j < i then j else i)) H) (brP (s == "divmod") (gate (j != 0 && !Builtin.divisionGoesByPylong i j) (newK H (.tup [.int (i.fdiv j), .int (i.fmod j)]) Q)) False))
noncomputable def b2J (x : Str) (l : Nat) : Prop := getK H l fun o => lstP o fun vs => optP (strsOf vs) fun ts => gate (s == "str.join") (Gate (JoinOk x ts) (Q (.str (Txt.join x ts)) H))
noncomputable def b2S (x y : Str) : Prop := brP (s == "str.index") (headP (Builtin.Str.occurrences x y 0 x.length 1) fun i => Q (.int i) H) (gate (s == "str.count") (Q (.int (Txt.count x y)) H))
noncomputable def b3I (i j k : Int) : Prop := brP (s == "max") (Q (.int (Mine.max3 i j k)) H) (gate (s == "min") (Q (.int (Mine.min3 i j k)) H))
noncomputable def b3F (i j k : UInt64) : Prop := brP (s == "max") (Q (.flt (Mine.max3F i j k)) H) (gate (s == "min") (Q (.flt (Mine.min3F i j k)) H))
noncomputable def biK (H : List AO) (s : String) (as : List V) (Q : V → List AO → Prop) : Prop := match as with
  | [a] => onRef a (b1R c H s Q) (onInt a (b1I H s Q) False)
  | [a, b] => onRef a (b2R c H s Q b) (onInt a (fun i => onInt b (b2I H s Q i) False)
        (onStr a (fun x => onRef b (b2J H s Q x) (onStr b (b2S H s Q x) False)) (Raw (Cl c.W c.n H (.bi s) as [] [] Q))))
  | [a, b, d] => onInt a (fun i => onInt b (fun j => onInt d (b3I H s Q i j) False) False)
      (onFlt a (fun i => onFlt b (fun j => onFlt d (b3F H s Q i j) False) False) (Raw (Cl c.W c.n H (.bi s) as [] [] Q)))
  | _ => Raw (Cl c.W c.n H (.bi s) as [] [] Q)
noncomputable def t1S (x : Str) : Prop := gate (s == "list" && decide (x.cps.size ≤ 1000000)) (newK H (.lst (signs x)) Q)
noncomputable def t1F (x : UInt64) : Prop := gate (s == "int") (finP (Float64.decode x) fun sg m e => Q (.int (Float64.truncOf sg m e)) H)
noncomputable def t1R (l : Nat) : Prop := getK H l fun o => lstP o fun vs => brP (s == "reversed") (newK H (revIt l ((vs.length : Int) - 1)) Q) (gate (s == "enumerate") (newK H (lstIt l 0) fun _ H1 => newK H1 (.enum Option.none H.length 0 .none) Q))
noncomputable def tyK (H : List AO) (s : String) (as : List V) (Q : V → List AO → Prop) : Prop := match as with
  | [a] => onInt a (fun i => gate (s == "range") (newK H (rng i) Q))
      (onBool a (fun b => gate (s == "int") (Q (.int (if b then 1 else 0)) H))
      (onFlt a (t1F H s Q) (onStr a (t1S H s Q) (onRef a (t1R H s Q) (Raw (Cl c.W c.n H (.typ s) as [] [] Q))))))
  | _ => Raw (Cl c.W c.n H (.typ s) as [] [] Q)
end
section
variable {c : Cx} {ae : AE} {H : List AO} {x : Str} {v : V}
theorem onInt_e {a : V} {k : Int → Prop} {z G : Prop} (h : onInt a k z) (f : ∀ i, a = .int i → k i → G) (g : z → G) : G := by induction a <;> first | exact f _ rfl h | exact g h
theorem onFlt_e {a : V} {k : UInt64 → Prop} {z G : Prop} (h : onFlt a k z) (f : ∀ i, a = .flt i → k i → G) (g : z → G) : G := by induction a <;> first | exact f _ rfl h | exact g h
theorem onStr_e {a : V} {k : Str → Prop} {z G : Prop} (h : onStr a k z) (f : ∀ i, a = .str i → k i → G) (g : z → G) : G := by induction a <;> first | exact f _ rfl h | exact g h
theorem onRef_e {a : V} {k : Nat → Prop} {z G : Prop} (h : onRef a k z) (f : ∀ i, a = .ref i → k i → G) (g : z → G) : G := by induction a <;> first | exact f _ rfl h | exact g h
theorem onBool_e {a : V} {k : Bool → Prop} {z G : Prop} (h : onBool a k z) (f : ∀ i, a = .bool i → k i → G) (g : z → G) : G := by induction a <;> first | exact f _ rfl h | exact g h
theorem lstQ_el {o : AO} {k : List V → Prop} {z : Prop} (h : lstQ o k z) : (∃ vs, o = .lst vs ∧ k vs) ∨ z := by induction o <;> first | exact .inl ⟨_, rfl, h⟩ | exact .inr h
theorem headP.mk {l r : List Nat} {i : Nat} {k : Nat → Prop} (e : l = i :: r) (h : k i) : headP l k := by subst e; exact h
theorem finP.mk {d : Float64.Num} {sg : Bool} {m : Nat} {e : Int} {k : Bool → Nat → Int → Prop} (q : d = .fin sg m e) (h : k sg m e) : finP d k := by subst q; exact h
theorem br2 {b : Bool} {T F G : Prop} (h : brP b T F) (t : b = true → T → G) (f : F → G) : G := by induction b; exact f h; exact t rfl h
theorem strsOf_eq {vs : List V} {ts : List Str} (h : strsOf vs = some ts) : vs = ts.map V.str := by
  induction vs generalizing ts with
  | nil => cases h; rfl
  | cons v r ih =>
    induction v <;> first | (cases h; done) | skip
    obtain ⟨t, h1, rfl⟩ := Option.map_eq_some_iff.mp h
    rw [ih h1]; rfl
theorem intsOf_eq {vs : List V} {ts : List Int} (h : intsOf vs = some ts) : vs = ts.map V.int := by
  induction vs generalizing ts with
  | nil => cases h; rfl
  | cons v r ih =>
    induction v <;> first | (cases h; done) | skip
    obtain ⟨t, h1, rfl⟩ := Option.map_eq_some_iff.mp h
    rw [ih h1]; rfl
theorem intsOf_map : ∀ {us : List Int}, intsOf (us.map V.int) = some us
  | [] => rfl
  | u :: us => by show (intsOf (us.map V.int)).map _ = _; rw [intsOf_map]; rfl
variable {s : String} {Q : V → List AO → Prop}
theorem b1R_el {l : Nat} (h : b1R c H s Q l) : Cl c.W c.n H (.bi s) [.ref l] [] [] Q := by
  obtain ⟨o, h1, h⟩ := getK_el h
  obtain ⟨vs, rfl, h⟩ := lstP_el h
  refine br2 h (fun e1 h => ?_) fun h => ?_
  · obtain ⟨ns, e2, h⟩ := optP_el h
    rw [eq_of_beq e1]; exact .sum (by rw [h1, intsOf_eq e2]) h
  obtain ⟨e, h⟩ := gate_el h
  have e := of_decide_eq_true e
  refine br2 h (fun e1 h => ?_) fun h => br2 h (fun e1 h => ?_) fun h => h.out
  · rw [eq_of_beq e1]; exact .len h1 e h
  · rw [eq_of_beq e1]; rw [setK_eq] at h; exact .reverse h1 e h
theorem b1I_el {i : Int} (h : b1I H s Q i) : Cl c.W c.n H (.bi s) [.int i] [] [] Q := by
  refine br2 h (fun e1 h => ?_) fun h => br2 h (fun e1 h => ?_) fun h => h.elim
  · rw [eq_of_beq e1]; exact .abs h
  · rw [eq_of_beq e1]; exact .bitLength h
theorem b2R_el {l : Nat} {b : V} (h : b2R c H s Q b l) : Cl c.W c.n H (.bi s) [.ref l, b] [] [] Q := by
  obtain ⟨o, h1, h⟩ := getK_el h
  rcases lstQ_el h with ⟨vs, rfl, h⟩ | h
  rotate_left
  · exact h.out
  obtain ⟨e, h⟩ := gate_el h
  have e := of_decide_eq_true e
  refine br2 h (fun e1 h => ?_) fun h => br2 h (fun e1 h => ?_) fun h => h.out
  · rw [eq_of_beq e1]; rw [setK_eq] at h; exact .append h1 e h
  · rw [eq_of_beq e1]
    induction vs using List.casesOn with
    | nil => exact h.elim
    | cons v r =>
      refine onInt_e h (fun i e0 h => ?_) fun h => h.elim
      subst e0
      obtain ⟨e2, h⟩ := gate_el h
      rw [eq_of_beq e2]
      rw [setK_eq] at h
      exact .pop0 h1 (Nat.le_of_succ_le e) h
theorem b2I_el {i j : Int} (h : b2I H s Q i j) : Cl c.W c.n H (.bi s) [.int i, .int j] [] [] Q := by
  refine br2 h (fun e1 h => ?_) fun h => br2 h (fun e1 h => ?_) fun h => br2 h (fun e1 h => ?_) fun h => h.elim
  · rw [eq_of_beq e1]; exact .max2 h
  · rw [eq_of_beq e1]; exact .min2 h
  · rw [eq_of_beq e1]
    obtain ⟨e2, h⟩ := gate_el h
    obtain ⟨e3, e4⟩ := Bool.and_eq_true_iff.mp e2
    rw [newK_eq] at h
    exact .divmod (bne0 e3) (not_t e4) h
theorem b2J_el {x : Str} {l : Nat} (h : b2J H s Q x l) : Cl c.W c.n H (.bi s) [.str x, .ref l] [] [] Q := by
  obtain ⟨o, h1, h⟩ := getK_el h
  obtain ⟨vs, rfl, h⟩ := lstP_el h
  obtain ⟨ts, h2, h⟩ := optP_el h
  obtain ⟨e4, h⟩ := gate_el h
  obtain ⟨e3, h⟩ := h
  rw [eq_of_beq e4]
  exact .join (by rw [h1, strsOf_eq h2]) e3 h
theorem b2S_el {x y : Str} (h : b2S H s Q x y) : Cl c.W c.n H (.bi s) [.str x, .str y] [] [] Q := by
  refine br2 h (fun e1 h => ?_) fun h => ?_
  · rw [eq_of_beq e1]
    cases hq : Builtin.Str.occurrences x y 0 x.length 1 with
    | nil => rw [hq] at h; exact h.elim
    | cons i r => rw [hq] at h; exact .index hq h
  · obtain ⟨e1, h⟩ := gate_el h
    rw [eq_of_beq e1]; exact .count h
theorem b3I_el {i j k : Int} (h : b3I H s Q i j k) : Cl c.W c.n H (.bi s) [.int i, .int j, .int k] [] [] Q := by
  refine br2 h (fun e1 h => ?_) fun h => ?_
  · rw [eq_of_beq e1]; exact .max3 h
  · obtain ⟨e1, h⟩ := gate_el h
    rw [eq_of_beq e1]; exact .min3 h
theorem b3F_el {i j k : UInt64} (h : b3F H s Q i j k) : Cl c.W c.n H (.bi s) [.flt i, .flt j, .flt k] [] [] Q := by
  refine br2 h (fun e1 h => ?_) fun h => ?_
  · rw [eq_of_beq e1]; exact .max3F h
  · obtain ⟨e1, h⟩ := gate_el h
    rw [eq_of_beq e1]; exact .min3F h
theorem biK_el {s : String} {as : List V} {Q : V → List AO → Prop} (h : biK c H s as Q) : Cl c.W c.n H (.bi s) as [] [] Q := by
  rcases as with _ | ⟨a, _ | ⟨b, _ | ⟨d, _ | ⟨e, r⟩⟩⟩⟩
  · exact h.out
  · exact onRef_e h (fun l e h => e ▸ b1R_el h) fun h => onInt_e h (fun i e h => e ▸ b1I_el h) False.elim
  · exact onRef_e h (fun l e h => e ▸ b2R_el h) fun h => onInt_e h (fun i e h => e ▸ onInt_e h (fun j e h => e ▸ b2I_el h) False.elim) fun h =>
      onStr_e h (fun x e h => e ▸ onRef_e h (fun l e h => e ▸ b2J_el h) fun h => onStr_e h (fun y e h => e ▸ b2S_el h) False.elim) fun h => h.out
  · exact onInt_e h (fun i e h => e ▸ onInt_e h (fun j e h => e ▸ onInt_e h (fun k e h => e ▸ b3I_el h) False.elim) False.elim) fun h =>
      onFlt_e h (fun i e h => e ▸ onFlt_e h (fun j e h => e ▸ onFlt_e h (fun k e h => e ▸ b3F_el h) False.elim) False.elim) fun h => h.out
  · exact h.out
theorem t1F_el {x : UInt64} (h : t1F H s Q x) : Cl c.W c.n H (.typ s) [.flt x] [] [] Q := by
  obtain ⟨e, h⟩ := gate_el h
  rw [eq_of_beq e]
  cases hd : Float64.decode x with
  | fin sg m e => rw [hd] at h; exact .intOfFlt hd h
  | _ => rw [hd] at h; exact h.elim
theorem t1S_el {x : Str} (h : t1S H s Q x) : Cl c.W c.n H (.typ s) [.str x] [] [] Q := by
  obtain ⟨e, h⟩ := gate_el h
  obtain ⟨e1, e2⟩ := Bool.and_eq_true_iff.mp e
  rw [eq_of_beq e1]; rw [newK_eq] at h; exact .listStr (of_decide_eq_true e2) h
theorem t1R_el {l : Nat} (h : t1R H s Q l) : Cl c.W c.n H (.typ s) [.ref l] [] [] Q := by
  obtain ⟨o, h1, h⟩ := getK_el h
  obtain ⟨vs, rfl, h⟩ := lstP_el h
  refine br2 h (fun e h => ?_) fun h => ?_
  · rw [eq_of_beq e]; rw [newK_eq] at h; exact .reversed h1 h
  · obtain ⟨e, h⟩ := gate_el h
    rw [eq_of_beq e]; rw [newK_eq, newK_eq] at h
    rw [List.length_append] at h
    exact .enumerate h1 h
theorem tyK_el {s : String} {as : List V} {Q : V → List AO → Prop} (h : tyK c H s as Q) : Cl c.W c.n H (.typ s) as [] [] Q := by
  rcases as with _ | ⟨a, _ | ⟨b, r⟩⟩
  · exact h.out
  · refine onInt_e h (fun i e h => e ▸ ?_) fun h => onBool_e h (fun i e h => e ▸ ?_) fun h => onFlt_e h (fun x e h => e ▸ t1F_el h) fun h => onStr_e h (fun x e h => e ▸ t1S_el h) fun h =>
      onRef_e h (fun l e h => e ▸ t1R_el h) fun h => h.out
    · obtain ⟨e, h⟩ := gate_el h
      rw [eq_of_beq e]; rw [newK_eq] at h; exact .rng h
    · obtain ⟨e, h⟩ := gate_el h
      rw [eq_of_beq e]; exact .intOfBool h
  · exact h.out
end
end Mine

-- FILE N4
open PySem PySem.W PyProof.Rows
set_option Elab.async false
set_option autoImplicit false
set_option maxRecDepth 100000
namespace Mine
noncomputable def optE {α : Type} (o : Option α) (N : Prop) (S : α → Prop) : Prop := Option.rec N S o
theorem optE_e {α : Type} {o : Option α} {N G : Prop} {S : α → Prop} (h : optE o N S) (f : o = none → N → G) (g : ∀ a, o = some a → S a → G) : G := by
  induction o with
  | none => exact f rfl h
  | some a => exact g a rfl h
noncomputable section
noncomputable def asIt2 (o : AO) (k : String → V → Int → Prop) (z : Prop) : Prop := match o with
  | .iter s [v, .raw (.int i t)] => gate (Nat.beq t 0) (k s v i)
  | _ => z
noncomputable def asFlds (o : AO) (k : String → List V → Prop) (z : Prop) : Prop := match o with | .flds s vs => k s vs | _ => z
noncomputable def asEnum (o : AO) (k : Nat → Int → V → Prop) (z : Prop) : Prop := match o with | .enum none it i old => k it i old | _ => z
noncomputable def rawI (v : V) (k : Int → Prop) : Prop := match v with | .raw (.int i t) => gate (Nat.beq t 0) (k i) | _ => False
noncomputable def raw3 (vs : List V) (k : Int → Int → Int → Prop) : Prop := match vs with | [x, y, z] => rawI x fun x => rawI y fun y => rawI z fun z => k x y z | _ => False
noncomputable def int3 (vs : List V) (k : Int → Int → Int → Prop) : Prop := match vs with | [x, y, z] => onInt x (fun x => onInt y (fun y => onInt z (fun z => k x y z) False) False) False | _ => False
noncomputable def call3 (vs : List V) (k z : Prop) : Prop := match vs with | [x, y, b] => onRef x (fun _ => onStr y (fun _ => onBool b (fun b => brP b z k) z) z) z | _ => z
variable (c : Cx)
noncomputable def itSelf (H : List AO) (v : V) (A : Prop) : Prop := onRef v (fun j => getK H j fun o =>
    asIt2 o (fun s u i => onRef u (fun _ => brP (s == "list_iterator") (onNat i fun _ => A) (gate (s == "list_reverseiterator") A)) (onStr u (fun _ => gate (s == "str_ascii_iterator") (onNat i fun _ => A)) False))
      (asEnum o (fun _ _ _ => A) (asFlds o (fun s vs => gate (s == "range_iterator") (raw3 vs fun _ _ d => gate (d == 1) A)) False))) False
noncomputable def iteP (H : List AO) (v : V) (Q : V → List AO → Prop) : Prop :=
  onStr v (fun x => Gate (x.cps.all (· < 128)) (newK H (strIt x 0) Q))
    (onRef v (fun j => getK H j fun o => match o with
      | .lst _ => newK H (lstIt j 0) Q
      | .flds s vs => brP (s == "range") (int3 vs fun a k d => gate (a == 0 && (d == 1 && (decide (0 ≤ k) && decide (k < 4611686018427387904)))) (newK H (Mine.rngIt 0 k) Q)) (itSelf H v (Q v H))
      | .iter s vs => call3 vs (gate (s == "callable_iterator") (Q v H)) (itSelf H v (Q v H))
      | _ => itSelf H v (Q v H)) False)
noncomputable def nxtL (H : List AO) (j : Nat) (s : String) (i : Int) (Q : Option V → List AO → Prop) (l : Nat) : Prop := getK H l fun ol => lstP ol fun vs => brP (s == "list_iterator")
          (onNat i fun i => optE (vs[i]? : Option V) (gate (decide (vs.length ≤ i)) (setK H j .junk (Q none))) (fun w => setK H j (lstIt l (i + 1)) (Q (some w))))
          (gate (s == "list_reverseiterator") (brP (i == -1) (Q none H) (onNat i fun i => optE (vs[i]? : Option V) False (fun w => setK H j (revIt l ((i : Int) - 1)) (Q (some w))))))
noncomputable def nxtS (H : List AO) (j : Nat) (s : String) (i : Int) (Q : Option V → List AO → Prop) (x : Str) : Prop := gate (s == "str_ascii_iterator") (onNat i fun i => optE (x.cps[i]? : Option Nat) (setK H j .junk (Q none)) (fun w => setK H j (strIt x (i + 1)) (Q (some (.str ⟨#[w]⟩)))))
noncomputable def nxtE (H : List AO) (j : Nat) (Q : Option V → List AO → Prop) (it : Nat) (i : Int) (_ : V) : Prop := getK H it fun oi => asIt2 oi (fun s u i' => onRef u (fun l => getK H l fun ol => lstP ol fun vs => gate (s == "list_iterator" && i == i') (onNat i' fun i =>
          optE (vs[i]? : Option V) (gate (decide (vs.length ≤ i)) (setK H it .junk (Q none)))
            (fun w => lenK H 0 fun n => setK H j (.enum (some n) it ((i : Int) + 1) w) fun H1 => setK H1 it (lstIt l (i + 1)) fun H2 => newK H2 (.tup [.int i, w]) fun r H3 => Q (some r) H3))) False) False
noncomputable def nxtR (H : List AO) (j : Nat) (Q : Option V → List AO → Prop) (s : String) (vs : List V) : Prop := gate (s == "range_iterator") (raw3 vs fun x y z => gate (z == 1) (brP (decide (0 < y)) (setK H j (Mine.rngIt (x + 1) (y - 1)) (Q (some (.int x)))) (Q none H)))
noncomputable def nxtP (H : List AO) (v : V) (Q : Option V → List AO → Prop) : Prop := onRef v (fun j => getK H j fun o =>
    asIt2 o (fun s u i => onRef u (nxtL H j s i Q) (onStr u (nxtS H j s i Q) False))
      (asEnum o (nxtE H j Q) (asFlds o (nxtR H j Q) (Raw (Nxt c.W c.n H v Q))))) (Raw (Nxt c.W c.n H v Q))
end
section
variable {c : Cx} {ae : AE} {H : List AO} {x : Str} {v : V}
theorem asIt2_el {o : AO} {k : String → V → Int → Prop} {z G : Prop} (h : asIt2 o k z) (a : ∀ s v i, o = .iter s [v, .raw (.int i 0)] → k s v i → G) (b : z → G) : G := by
  induction o <;> first | exact b h | skip
  case iter s vs =>
    rcases vs with _ | ⟨v, _ | ⟨r, l⟩⟩ <;> first | exact b h | skip
    induction r <;> first | exact b h | skip
    case raw z =>
      induction z <;> first | exact b h | skip
      case int i t =>
        induction l using List.casesOn with
        | cons => exact b h
        | nil =>
          obtain ⟨e, h⟩ := gate_el h
          exact a _ _ _ (by rw [Nat.eq_of_beq_eq_true e]) h
theorem asFlds_el {o : AO} {k : String → List V → Prop} {z G : Prop} (h : asFlds o k z) (a : ∀ s vs, o = .flds s vs → k s vs → G) (b : z → G) : G := by
  induction o <;> first | exact a _ _ rfl h | exact b h
theorem asEnum_el {o : AO} {k : Nat → Int → V → Prop} {z G : Prop} (h : asEnum o k z) (a : ∀ it i old, o = .enum none it i old → k it i old → G) (b : z → G) : G := by
  induction o <;> first | exact b h | skip
  case enum r it i old => induction r <;> first | exact a _ _ _ rfl h | exact b h
theorem rawI_e {v : V} {k : Int → Prop} {G : Prop} (h : rawI v k) (f : ∀ i, v = .raw (rawInt i) → k i → G) : G := by
  induction v <;> first | exact h.elim | skip
  case raw z =>
    induction z <;> first | exact h.elim | skip
    case int i t =>
      obtain ⟨e, h⟩ := gate_el h
      exact f _ (by rw [Nat.eq_of_beq_eq_true e]; rfl) h
theorem brE {b : Bool} {T F G : Prop} (h : brP b T F) (t : b = true → T → G) (f : b = false → F → G) : G := by induction b; exact f rfl h; exact t rfl h
theorem raw3_e {vs : List V} {k : Int → Int → Int → Prop} {G : Prop} (h : raw3 vs k) (f : ∀ x y z, vs = [.raw (rawInt x), .raw (rawInt y), .raw (rawInt z)] → k x y z → G) : G := by
  rcases vs with _ | ⟨x, _ | ⟨y, _ | ⟨z, _ | _⟩⟩⟩ <;> try exact h.elim
  exact rawI_e h fun x ex h => rawI_e h fun y ey h => rawI_e h fun z ez h => f x y z (by rw [ex, ey, ez]) h
theorem int3_e {vs : List V} {k : Int → Int → Int → Prop} {G : Prop} (h : int3 vs k) (f : ∀ x y z, vs = [.int x, .int y, .int z] → k x y z → G) : G := by
  rcases vs with _ | ⟨x, _ | ⟨y, _ | ⟨z, _ | _⟩⟩⟩ <;> try exact h.elim
  exact onInt_e h (fun x ex h => onInt_e h (fun y ey h => onInt_e h (fun z ez h => f x y z (by rw [ex, ey, ez]) h) False.elim) False.elim) False.elim
theorem call3_e {vs : List V} {k z G : Prop} (h : call3 vs k z) (f : ∀ x y, vs = [.ref x, .str y, .bool false] → k → G) (g : z → G) : G := by
  rcases vs with _ | ⟨x, _ | ⟨y, _ | ⟨z, _ | _⟩⟩⟩ <;> try exact g h
  exact onRef_e h (fun x ex h => onStr_e h (fun y ey h => onBool_e h (fun b eb h => brE h (fun _ h => g h) fun e h => f x y (by rw [ex, ey, eb, e]) h) g) g) g
theorem itSelf_el {W : Wd} {n : Nat} {A : Prop} (h : itSelf H v A) : A ∧ ∀ (Q : V → List AO → Prop), Q v H → Ite W n H v Q := by
  refine onRef_e h (fun j e h => ?_) False.elim
  subst e
  obtain ⟨o, h1, h⟩ := getK_el h
  refine asIt2_el h (fun s u i e h => ?_) fun h => asEnum_el h (fun it i old e h => ?_) fun h => asFlds_el h (fun s vs e h => ?_) False.elim
  · subst e
    refine onRef_e h (fun l e h => ?_) fun h => onStr_e h (fun x e h => ?_) False.elim
    · subst e
      refine br2 h (fun e h => ?_) fun h => ?_
      · obtain ⟨k, e2, h⟩ := onNat_el h
        rw [eq_of_beq e, e2] at h1
        exact ⟨h, fun Q q => .listIt h1 q⟩
      · obtain ⟨e, h⟩ := gate_el h
        rw [eq_of_beq e] at h1
        exact ⟨h, fun Q q => .rev h1 q⟩
    · subst e
      obtain ⟨e, h⟩ := gate_el h
      obtain ⟨k, e2, h⟩ := onNat_el h
      rw [eq_of_beq e, e2] at h1
      exact ⟨h, fun Q q => .strIt h1 q⟩
  · subst e
    exact ⟨h, fun Q q => .enum h1 q⟩
  · subst e
    obtain ⟨e, h⟩ := gate_el h
    refine raw3_e h fun x y z e2 h => ?_
    obtain ⟨e3, h⟩ := gate_el h
    rw [eq_of_beq e, e2, eq_of_beq e3] at h1
    exact ⟨h, fun Q q => .rngIt h1 q⟩
theorem iteP_el {W : Wd} {n : Nat} {Q : V → List AO → Prop} (h : iteP H v Q) : Ite W n H v Q := by
  refine onStr_e h (fun x e h => ?_) fun h => onRef_e h (fun j e h => ?_) False.elim
  · subst e
    obtain ⟨e, h⟩ := h
    rw [newK_eq] at h
    exact .str e h
  · subst e
    obtain ⟨o, h1, h⟩ := getK_el h
    have hn : itSelf H (.ref j) (Q (.ref j) H) → Ite W n H (.ref j) Q := fun h => (itSelf_el h).2 Q (itSelf_el (W := W) (n := n) h).1
    induction o <;> first | exact hn h | skip
    case lst vs =>
      rw [newK_eq] at h
      exact .list h1 h
    case flds s vs =>
      refine br2 h (fun e h => int3_e h fun x y z e1 h => ?_) hn
      obtain ⟨e2, h⟩ := gate_el h
      obtain ⟨e3, e2⟩ := Bool.and_eq_true_iff.mp e2
      obtain ⟨e4, e2⟩ := Bool.and_eq_true_iff.mp e2
      obtain ⟨e5, e6⟩ := Bool.and_eq_true_iff.mp e2
      rw [eq_of_beq e, e1, eq_of_beq e3, eq_of_beq e4] at h1
      rw [newK_eq] at h
      exact .rng h1 (of_decide_eq_true e5) (of_decide_eq_true e6) h
    case iter s vs =>
      refine call3_e h (fun x y e1 h => ?_) hn
      obtain ⟨e, h⟩ := gate_el h
      rw [eq_of_beq e, e1] at h1
      exact .callIt h1 h
theorem nxtL_el {j l : Nat} {s : String} {i : Int} {Q : Option V → List AO → Prop} (h1 : H[j]? = some (.iter s [.ref l, .raw (.int i 0)])) (h : nxtL H j s i Q l) : Nxt c.W c.n H (.ref j) Q := by
  obtain ⟨ol, h2, h⟩ := getK_el h
  obtain ⟨vs, rfl, h⟩ := lstP_el h
  refine br2 h (fun e h => ?_) fun h => ?_
  · obtain ⟨k, e2, h⟩ := onNat_el h
    rw [eq_of_beq e, e2] at h1
    refine optE_e h (fun hv h => ?_) fun w hv h => ?_
    · obtain ⟨e, h⟩ := gate_el h
      rw [setK_eq] at h
      exact .listEnd h1 h2 (of_decide_eq_true e) h
    · rw [setK_eq] at h
      exact .listItem h1 h2 hv h
  · obtain ⟨e, h⟩ := gate_el h
    rw [eq_of_beq e] at h1
    refine br2 h (fun e h => ?_) fun h => ?_
    · rw [eq_of_beq e] at h1
      exact .revEnd h1 h
    · obtain ⟨k, e2, h⟩ := onNat_el h
      rw [e2] at h1
      refine optE_e h (fun _ h => h.elim) fun w hv h => ?_
      rw [setK_eq] at h
      exact .revItem h1 h2 hv h
theorem nxtS_el {j : Nat} {x : Str} {s : String} {i : Int} {Q : Option V → List AO → Prop} (h1 : H[j]? = some (.iter s [.str x, .raw (.int i 0)])) (h : nxtS H j s i Q x) : Nxt c.W c.n H (.ref j) Q := by
  obtain ⟨e, h⟩ := gate_el h
  obtain ⟨k, e2, h⟩ := onNat_el h
  rw [eq_of_beq e, e2] at h1
  refine optE_e h (fun hv h => ?_) fun w hv h => ?_
  · rw [setK_eq] at h
    exact .strEnd h1 hv h
  · rw [setK_eq] at h
    exact .strItem h1 hv h
theorem nxtE_el {j it : Nat} {i : Int} {old : V} {Q : Option V → List AO → Prop} (h1 : H[j]? = some (.enum none it i old)) (h : nxtE H j Q it i old) : Nxt c.W c.n H (.ref j) Q := by
  obtain ⟨oi, h2, h⟩ := getK_el h
  refine asIt2_el h (fun s u i' e h => ?_) False.elim
  subst e
  refine onRef_e h (fun l e h => ?_) False.elim
  subst e
  obtain ⟨ol, h3, h⟩ := getK_el h
  obtain ⟨vs, rfl, h⟩ := lstP_el h
  obtain ⟨e, h⟩ := gate_el h
  obtain ⟨e1, e2⟩ := Bool.and_eq_true_iff.mp e
  obtain ⟨k, e3, h⟩ := onNat_el h
  rw [eq_of_beq e1, e3] at h2
  rw [eq_of_beq e2, e3] at h1
  refine optE_e h (fun hv h => ?_) fun w hv h => ?_
  · obtain ⟨e, h⟩ := gate_el h
    rw [setK_eq] at h
    exact .enumEnd h1 h2 h3 (of_decide_eq_true e) h
  · rw [lenK_eq, setK_eq, setK_eq, newK_eq, Nat.zero_add, List.length_set, List.length_set] at h
    exact .enumItem h1 h2 h3 hv h
theorem nxtR_el {j : Nat} {s : String} {vs : List V} {Q : Option V → List AO → Prop} (h1 : H[j]? = some (.flds s vs)) (h : nxtR H j Q s vs) : Nxt c.W c.n H (.ref j) Q := by
  obtain ⟨e, h⟩ := gate_el h
  refine raw3_e h fun x y z e2 h => ?_
  obtain ⟨e3, h⟩ := gate_el h
  rw [eq_of_beq e, e2, eq_of_beq e3] at h1
  refine brE h (fun e h => ?_) fun e h => ?_
  · rw [setK_eq] at h
    exact .rngItem h1 (of_decide_eq_true e) h
  · exact .rngEnd h1 (Int.not_lt.mp (of_decide_eq_false e)) h
theorem nxtP_el {Q : Option V → List AO → Prop} (h : nxtP c H v Q) : Nxt c.W c.n H v Q :=
  onRef_e h (fun j e h => e ▸ by
    obtain ⟨o, h1, h⟩ := getK_el h
    exact asIt2_el h (fun s u i e h => onRef_e h (fun l e2 h => nxtL_el (by rw [h1, e, e2]) h) fun h => onStr_e h (fun x e2 h => nxtS_el (by rw [h1, e, e2]) h) False.elim)
      fun h => asEnum_el h (fun it i old e h => nxtE_el (by rw [h1, e]) h) fun h => asFlds_el h (fun s vs e h => nxtR_el (by rw [h1, e]) h) fun h => e ▸ h.out) fun h => h.out
end
end Mine

-- FILE N5
open PySem PySem.W PyProof.Rows
set_option Elab.async false
set_option autoImplicit false
set_option maxRecDepth 100000
namespace Mine
noncomputable section
noncomputable def isStar (e : Expr) : Bool := Nat.beq e.ctorIdx 22
noncomputable def isSet (e : Expr) : Bool := Nat.beq e.ctorIdx 7
noncomputable def isCmp (e : Expr) : Bool := Nat.ble 8 e.ctorIdx && Nat.ble e.ctorIdx 10
noncomputable def isTup (e : Expr) : Bool := Nat.ble 24 e.ctorIdx && Nat.ble e.ctorIdx 25
noncomputable def isCal (e : Expr) : Bool := Nat.beq e.ctorIdx 16
noncomputable def noStar : List Expr → Bool
  | [] => true
  | e :: r => Bool.rec (noStar r) false (isStar e)
noncomputable def allArg : List Keyword → Bool
  | [] => true
  | k :: r => Option.rec false (fun _ => allArg r) k.arg
noncomputable def closF (cells : List (Str × Nat)) : List (Str × NameKind) → List (Str × Nat) → Option (List (Str × Nat))
  | [], acc => some acc
  | (x, k) :: r, acc => Bool.rec (closF cells r acc) (Option.rec none (fun i => closF cells r ((x, i) :: acc)) (lk x cells)) (k == .free)
theorem closF_c {cells : List (Str × Nat)} {x : Str} {k : NameKind} {r : List (Str × NameKind)} {acc : List (Str × Nat)} : closF cells ((x, k) :: r) acc = Bool.rec (closF cells r acc) (Option.rec none (fun i => closF cells r ((x, i) :: acc)) (lk x cells)) (k == .free) := rfl
noncomputable def compF (outer : List (Str × NameKind)) : List (Str × NameKind) → List (Str × NameKind)
  | [] => []
  | (x, k) :: r => Bool.rec (x, k) (x, .cell) (k == .free && (lk x outer == some .cell)) :: compF outer r
theorem compF_c {outer : List (Str × NameKind)} {x : Str} {k : NameKind} {r : List (Str × NameKind)} : compF outer ((x, k) :: r) = Bool.rec (x, k) (x, .cell) (k == .free && (lk x outer == some .cell)) :: compF outer r := rfl
noncomputable def locsF (all : List (Str × NameKind)) : List (Str × NameKind) → Bool
  | [] => true
  | (x, k) :: r => (k != .local || lk x all == some .local) && locsF all r
theorem locsF_c {all : List (Str × NameKind)} {x : Str} {k : NameKind} {r : List (Str × NameKind)} : locsF all ((x, k) :: r) = ((k != .local || lk x all == some .local) && locsF all r) := rfl
variable (c : Cx)
noncomputable def metP (H : List AO) (ov : V) (name : Str) (Q : V → List V → List AO → Prop) : Prop :=
  onStr ov (fun s => brP (Fast.sEq name "join") (Q (.bi "str.join") [.str s] H) (brP (Fast.sEq name "index") (Q (.bi "str.index") [.str s] H) (gate (Fast.sEq name "count") (Q (.bi "str.count") [.str s] H))))
  (onRef ov (fun l => getK H l fun o => match o with
    | .lst _ => brP (Fast.sEq name "append") (Q (.bi "list.append") [.ref l] H) (brP (Fast.sEq name "insert") (Q (.bi "list.insert") [.ref l] H) (brP (Fast.sEq name "pop") (Q (.bi "list.pop") [.ref l] H) (gate (Fast.sEq name "reverse") (Q (.bi "list.reverse") [.ref l] H))))
    | _ => Raw (Met c.W c.n H ov name Q))
  (onInt ov (fun i => gate (Fast.sEq name "bit_length") (Q (.bi "int.bit_length") [.int i] H)) (Raw (Met c.W c.n H ov name Q))))
noncomputable def ownP (H : List AO) (t : Expr) (it v : V) (Q : List AO → Prop) : Prop := match t with
  | .Name _ _ => Q H
  | .Tuple _ _ _ => onRef it (fun j => getK H j fun o => match o with
    | .enum (some t) i k old => onRef v (fun t' => gate (Nat.beq t t') (setK H j (.enum none i k old) Q)) False
    | o => asIt2 o (fun s u i => onRef u (fun _ => gate (s == "list_iterator") (onNat i fun _ => Q H)) False) False) False
  | _ => Raw (Own c.W c.n H t it v Q)
noncomputable def clP (H : List AO) (f : V) (as : List V) (kn : List Str) (kv : List V) (Q : V → List AO → Prop) : Prop := match f with
  | .bi s => (match kn, kv with | [], [] => biK c H s as Q | _, _ => Raw (Cl c.W c.n H f as kn kv Q))
  | .typ s => (match kn, kv with | [], [] => tyK c H s as Q | _, _ => Raw (Cl c.W c.n H f as kn kv Q))
  | _ => Raw (Kee c.W c.n H f ∧ Cl c.W c.n H f as kn kv Q)
end
section
variable {c : Cx} {ae : AE} {H : List AO} {x : Str} {v : V}
theorem isStar_el {e : Expr} {es : List Expr} (h : isStar e = false) (env : Env) : starEach (e :: es) env = (false, eval e env) :: starEach es env := by induction e using PySem.Expr.casesOn <;> first | rfl | cases h
theorem noStar_cons {e : Expr} {es : List Expr} (h : noStar (e :: es) = true) : isStar e = false ∧ noStar es = true := by
  rw [noStar] at h
  cases hs : isStar e with
  | true => rw [hs] at h; cases h
  | false => rw [hs] at h; exact ⟨rfl, h⟩
theorem noStar_any : ∀ {es : List Expr}, noStar es = true → ∀ (pos : Pos) (env : Env), (backTo pos (starEach es env)).any (·.1) = false
  | [], _, _, _ => rfl
  | e :: es, h, pos, env => by
    obtain ⟨h1, h2⟩ := noStar_cons h
    rw [isStar_el h1]
    exact noStar_any h2 pos env
theorem noStar_all : ∀ {es : List Expr}, noStar es = true → ∀ (pos : Pos) (env : Env), (backTo pos (starEach es env)).all (!·.1) = true
  | [], _, _, _ => rfl
  | e :: es, h, pos, env => by
    obtain ⟨h1, h2⟩ := noStar_cons h
    rw [isStar_el h1]
    exact noStar_all h2 pos env
theorem noStar_asg : ∀ {ts : List Expr}, noStar ts = true → ∀ env : Env, assignEach ts env = ts.map fun t => (false, assign t env)
  | [], _, _ => rfl
  | e :: es, h, env => by
    obtain ⟨h1, h2⟩ := noStar_cons h
    rw [List.map_cons, ← noStar_asg h2 env]
    induction e using PySem.Expr.casesOn <;> first | rfl | cases h1
theorem allArg_all : ∀ {ks : List Keyword}, allArg ks = true → ∀ (pos : Pos) (env : Env), (backToKw pos (keywordEach ks env)).all (·.1.isSome) = true
  | [], _, _, _ => rfl
  | ⟨some a, e, p⟩ :: r, h, pos, env => allArg_all (ks := r) h pos env
  | ⟨none, e, p⟩ :: r, h, _, _ => by cases h
theorem allArg_map : ∀ (ks : List Keyword) (pos : Pos) (env : Env), (backToKw pos (keywordEach ks env)).filterMap (·.1) = ks.filterMap (·.arg)
  | [], _, _ => rfl
  | ⟨a, e, p⟩ :: r, pos, env => by
    have := allArg_map r pos env
    induction a with
    | none => exact this
    | some a => exact congrArg (a :: ·) this
theorem isSet_el {e : Expr} (h : isSet e = false) (env : Env) (x : Value) : foldedSetIterable e env x = pure x := by induction e using PySem.Expr.casesOn <;> first | rfl | cases h
theorem closF_eq {cells : List (Str × Nat)} : ∀ {ns : List (Str × NameKind)} {acc : List (Str × Nat)}, closF cells ns acc = closA cells ns acc
  | [], _ => rfl
  | (x, k) :: r, acc => by
    rw [closF_c, closA_c]
    cases hk : (k == NameKind.free) with
    | false => exact closF_eq
    | true =>
      rw [if_pos rfl, lk_eq]
      cases List.lookup x cells with
      | none => rfl
      | some i => exact closF_eq
theorem compF_eq {o : Scope} (h : o.kind = .function) : ∀ {ns : List (Str × NameKind)}, compF o.names ns = ns.map fun (x, k) => if (k == .free && o.kind == .function && o.names.lookup x == some .cell) then (x, .cell) else (x, k)
  | [] => rfl
  | (x, k) :: r => by
    rw [compF_c, compF_eq h, List.map_cons, lk_eq, h]
    congr 1
    induction k <;> first | rfl | skip
    show _ = if ((true && true) && (List.lookup x o.names == some NameKind.cell)) = true then _ else _
    cases hc : (List.lookup x o.names == some NameKind.cell) <;> rfl
theorem locsF_eq {all : List (Str × NameKind)} : ∀ {ns : List (Str × NameKind)}, locsF all ns = ns.all fun x => x.2 != .local || all.lookup x.1 == some .local
  | [] => rfl
  | (x, k) :: r => by rw [locsF_c, List.all_cons, locsF_eq, lk_eq]
theorem metP_el {ov : V} {name : Str} {Q : V → List V → List AO → Prop} (h : metP c H ov name Q) : Met c.W c.n H ov name Q := by
  refine onStr_e h (fun s e h => ?_) fun h => onRef_e h (fun l e h => ?_) fun h => ?_
  · subst e
    refine br2 h (fun e h => ?_) fun h => br2 h (fun e h => ?_) fun h => ?_
    · rw [Fast.sEq_iff.mp e]; exact .join h
    · rw [Fast.sEq_iff.mp e]; exact .index h
    · obtain ⟨e, h⟩ := gate_el h
      rw [Fast.sEq_iff.mp e]; exact .count h
  · subst e
    obtain ⟨o, h1, h⟩ := getK_el h
    induction o <;> try exact h.out
    refine br2 h (fun e h => ?_) fun h => br2 h (fun e h => ?_) fun h => br2 h (fun e h => ?_) fun h => ?_
    · rw [Fast.sEq_iff.mp e]; exact .append h1 h
    · rw [Fast.sEq_iff.mp e]; exact .insert h1 h
    · rw [Fast.sEq_iff.mp e]; exact .pop h1 h
    · obtain ⟨e, h⟩ := gate_el h
      rw [Fast.sEq_iff.mp e]; exact .reverse h1 h
  · refine onInt_e h (fun i e h => ?_) fun h => h.out
    subst e
    obtain ⟨e, h⟩ := gate_el h
    rw [Fast.sEq_iff.mp e]; exact .bitLength h
theorem ownP_el {t : Expr} {it v : V} {Q : List AO → Prop} (h : ownP c H t it v Q) : Own c.W c.n H t it v Q := by
  induction t using PySem.Expr.casesOn <;> first | exact h.out | exact .name h | skip
  rename_i es kx px
  refine onRef_e h (fun j e h => ?_) False.elim
  subst e
  obtain ⟨o, h1, h⟩ := getK_el h
  have k : asIt2 o (fun s u i => onRef u (fun _ => gate (s == "list_iterator") (onNat i fun _ => Q H)) False) False → Own c.W c.n H (.Tuple es kx px) (.ref j) v Q := fun h => by
    refine asIt2_el h (fun s u i e h => ?_) False.elim
    subst e
    refine onRef_e h (fun l e h => ?_) False.elim
    subst e
    obtain ⟨e, h⟩ := gate_el h
    obtain ⟨k, e2, h⟩ := onNat_el h
    rw [eq_of_beq e, e2] at h1
    exact .listIt h1 h
  induction o <;> first | exact k h | skip
  case enum t i q old =>
    induction t
    · exact k h
    · refine onRef_e h (fun t' e h => ?_) False.elim
      subst e
      obtain ⟨e, h⟩ := gate_el h
      rw [setK_eq] at h
      rw [← Nat.eq_of_beq_eq_true e]
      exact .enum h1 h
theorem clP_el {f : V} {as : List V} {kn : List Str} {kv : List V} {Q : V → List AO → Prop} (h : clP c H f as kn kv Q) : Kee c.W c.n H f ∧ Cl c.W c.n H f as kn kv Q := by
  induction f <;> try exact h.out
  · refine ⟨.typ, ?_⟩
    induction kn using List.casesOn with
    | nil => induction kv using List.casesOn with
      | nil => exact tyK_el h
      | cons _ _ => exact h.out
    | cons _ _ => exact h.out
  · refine ⟨.bi, ?_⟩
    induction kn using List.casesOn with
    | nil => induction kv using List.casesOn with
      | nil => exact biK_el h
      | cons _ _ => exact h.out
    | cons _ _ => exact h.out
end
end Mine

-- FILE N6
open PySem PySem.W PyProof.Rows
set_option Elab.async false
set_option autoImplicit false
set_option maxRecDepth 100000
namespace Mine
/-- what a walk's frame reads: the world, the frame, the frames around it, what is wanted at its end -/
structure Rd where
  c : Cx
  ae : AE
  up : List AE
  fin : Fl → List AO → Prop
noncomputable section
noncomputable def Rd.push (r : Rd) (a : AE) : Rd := ⟨r.c, a, r.ae :: r.up, r.fin⟩
noncomputable def Rd.pop (r : Rd) : Rd := match r.up with | a :: u => ⟨r.c, a, u, r.fin⟩ | [] => r
end
set_option genSizeOfSpec false in
set_option genInjectivity false in
inductive G where
  | ev (H : List AO) (e : Expr) (Q : V → List AO → Rd → Prop)
  | evT (H : List AO) (e : Expr) (Q : Bool → List AO → Rd → Prop)
  | evL (H : List AO) (es : List Expr) (Q : List V → List AO → Rd → Prop)
  | evK (H : List AO) (ks : List Keyword) (Q : List V → List AO → Rd → Prop)
  | ex (H : List AO) (s : Stmt) (Q : Fl → List AO → Rd → Prop)
  | exs (H : List AO) (b : List Stmt) (Q : Fl → List AO → Rd → Prop)
  | asg (H : List AO) (t : Expr) (v : V) (Q : List AO → Rd → Prop)
  | asgL (H : List AO) (ts : List Expr) (vs : List V) (Q : List AO → Rd → Prop)
  | cmp (H : List AO) (elt : Expr) (gens : List Comprehension) (scope : Scope) (pos : Pos) (d : Nat) (it acc : V) (Q : List AO → Rd → Prop)
  | cmpS (H : List AO) (elt : Expr) (gens : List Comprehension) (scope : Scope) (pos : Pos) (d : Nat) (it acc : V) (Q : List AO → Rd → Prop)
noncomputable section
noncomputable def G.sem (g : G) (r : Rd) : Prop := match g with
  | .ev H e Q => Ev r.c.W r.c.n r.ae H e fun v H => Q v H r
  | .evT H e Q => EvT r.c.W r.c.n r.ae H e fun v H => Q v H r
  | .evL H es Q => EvL r.c.W r.c.n r.ae H es fun v H => Q v H r
  | .evK H ks Q => EvK r.c.W r.c.n r.ae H ks fun v H => Q v H r
  | .ex H s Q => Ex r.c.W r.c.n r.ae H s fun v H => Q v H r
  | .exs H b Q => Exs r.c.W r.c.n r.ae H b fun v H => Q v H r
  | .asg H t v Q => Asg r.c.W r.c.n r.ae H t v fun H => Q H r
  | .asgL H ts vs Q => AsgL r.c.W r.c.n r.ae ts vs H fun H => Q H r
  | .cmp H elt gens scope pos d it acc Q => Cmp' r.c.W r.c.n r.ae H (.ListComp elt gens scope pos) d it acc fun H => Q H r
  | .cmpS H elt gens scope pos d it acc Q => CmpS r.c.W r.c.n r.ae H (.ListComp elt gens scope pos) d it acc fun H => Q H r
variable (k : G → Rd → Prop)
noncomputable def oneP {α : Type} (l : List α) (f : α → Prop) : Prop := match l with | [] => False | a :: l => (match l with | [] => f a | _ :: _ => False)
noncomputable def twoP {α : Type} (l : List α) (f : α → α → Prop) : Prop := match l with | [] => False | a :: l => oneP l (f a)
noncomputable def andP (op : BoolOp) (A B : Prop) : Prop := match op with | .And => A | .Or => B
noncomputable def notP (op : UnaryOp) (A B : Prop) : Prop := match op with | .Not => A | .Invert => B | .UAdd => B | .USub => B
noncomputable def conP (H : List AO) (v : Const) (Q : V → List AO → Prop) (z : Prop) : Prop := match v with
  | .int i => Q (.int i) H
  | .float x => Q (.flt x) H
  | .str s => Q (.str s) H
  | .bool b => Q (.bool b) H
  | .none => Q .none H
  | _ => z
noncomputable def lcK (elt : Expr) (gens : List Comprehension) (scope : Scope) (pos : Pos) (ns : List (Str × NameKind)) (cs : List (Str × Nat)) (Q : Nat → List AO → Rd → Prop) (it : V) (H2 : List AO) (r : Rd) : Prop :=
  lenK H2 0 fun n => snocK H2 (.lst []) fun Ha => snocK Ha (.ns []) fun Hb => k (.cmpS Hb elt gens scope pos 0 it (.ref n) fun H5 r => Q n H5 r.pop) (r.push ⟨{ scope with names := ns }, n + 1, cs, r.ae.qual, r.ae.code⟩)
/-- a comprehension: up to its list -/
noncomputable def lcP (H : List AO) (elt : Expr) (gens : List Comprehension) (scope : Scope) (pos : Pos) (Q : Nat → List AO → Rd → Prop) (r : Rd) : Prop := match gens with
  | g :: gs => kindP r.ae (match scope.kind with
      | .function => optP (closF r.ae.cells scope.names []) fun cs => gate (!isSet g.iter && (!firstAsync (g :: gs) && (noCells scope && locsF (compF r.ae.scope.names scope.names) scope.names))) <|
          k (.ev H g.iter fun x H1 r => iteP H1 x fun it H2 => lcK k elt (g :: gs) scope pos (compF r.ae.scope.names scope.names) cs Q it H2 r) r
      | _ => False)
  | [] => False
noncomputable def evO (H : List AO) (e : Option Expr) (Q : V → List AO → Rd → Prop) (r : Rd) : Prop := match e with | some e => k (.ev H e Q) r | none => Q .none H r
noncomputable def ev2P (H : List AO) (a b : Expr) (K : V → V → List AO → Rd → Prop) (r : Rd) : Prop := k (.ev H a fun x H1 r => k (.ev H1 b (K x)) r) r
noncomputable def boK (op : BoolOp) (b : Expr) (Q : V → List AO → Rd → Prop) (x : V) (H1 : List AO) (r : Rd) : Prop := truP r.c H1 x fun q H2 => andP op (brP q (k (.ev H2 b Q) r) (Q x H2 r)) (brP q (Q x H2 r) (k (.ev H2 b Q) r))
noncomputable def liK (f : List V → AO) (Q : V → List AO → Rd → Prop) (vs : List V) (H1 : List AO) (r : Rd) : Prop := gate (decide (vs.length ≤ 16777216)) (newK H1 (f vs) fun v H => Q v H r)
noncomputable def meK (name : Str) (as : List Expr) (Q : V → List AO → Rd → Prop) (ov : V) (H1 : List AO) (r : Rd) : Prop := metP r.c H1 ov name fun f fs H2 => k (.evL H2 as fun vs H3 r => clP r.c H3 f (fs ++ vs) [] [] fun v H => Q v H r) r
noncomputable def caK (as : List Expr) (ks : List Keyword) (Q : V → List AO → Rd → Prop) (fv : V) (H1 : List AO) (r : Rd) : Prop := k (.evL H1 as fun vs H2 r => k (.evK H2 ks fun us H3 r => clP r.c H3 fv vs (ks.filterMap (·.arg)) us fun v H => Q v H r) r) r
noncomputable def calP (H : List AO) (f : Expr) (as : List Expr) (ks : List Keyword) (pos : Pos) (Q : V → List AO → Rd → Prop) (r : Rd) : Prop := match f with
    | .Attribute o name apos => gate (ks.isEmpty && (!isCal o && (apos.endLine == pos.line && (noStar as && decide (as.length < 20))))) (k (.ev H o (meK k name as Q)) r)
    | .Name x p => gate (noStar as && allArg ks) (k (.ev H (.Name x p) (caK k as ks Q)) r)
    | _ => False
noncomputable def lcQ (Q : V → List AO → Rd → Prop) (n : Nat) (H5 : List AO) (r : Rd) : Prop := getK H5 (n + 1) fun o => nsP o fun _ => setK H5 (n + 1) .dict fun H6 => Q (.ref n) H6 r
noncomputable def evP (H : List AO) (e : Expr) (Q : V → List AO → Rd → Prop) (r : Rd) : Prop := match e with
  | .Name x _ => gate (!Fast.sEq x "__debug__") (ldP r.c r.ae H x fun v H => Q v H r)
  | .Constant v _ _ => conP H v (fun v H => Q v H r) (Raw (Ev r.c.W r.c.n r.ae H e fun v H => Q v H r))
  | .BinOp l op x _ => ev2P k H l x (fun a b H2 r => binP r.c H2 op a b fun v H => Q v H r) r
  | .UnaryOp op x _ => k (.ev H x fun a H1 r => unP r.c H1 op a fun v H => Q v H r) r
  | .IfExp t b o _ => k (.evT H t fun q H1 r => brP q (k (.ev H1 b Q) r) (k (.ev H1 o Q) r)) r
  | .Compare l ops rs _ => oneP ops fun op => oneP rs fun x => gate (!behindInMarks op x) (ev2P k H l x (fun a b H2 r => cmpP r.c H2 op a b fun v H => Q v H r) r)
  | .BoolOp op es _ => twoP es fun a b => k (.ev H a (boK k op b Q)) r
  | .List es _ => k (.evL H es (liK .lst Q)) r
  | .Tuple es _ _ => k (.evL H es (liK .tup Q)) r
  | .Subscript o i _ => ev2P k H o i (fun ov iv H2 r => gitP r.c H2 ov iv fun v H => Q v H r) r
  | .Attribute o name _ => gate (!isCal o) (k (.ev H o fun ov H1 r => Raw (Gat r.c.W r.c.n H1 ov name fun v H => Q v H r)) r)
  | .Call f as ks pos => calP k H f as ks pos Q r
  | .ListComp elt gens scope pos => lcP k H elt gens scope pos (lcQ Q) r
  | .Slice l u s _ => evO k H l (fun a H1 r => evO k H1 u (fun b H2 r => evO k H2 s (fun d H3 r => newK H3 (.flds "slice" [a, b, d]) fun v H => Q v H r) r) r) r
  | e => Raw (Ev r.c.W r.c.n r.ae H e fun v H => Q v H r)
noncomputable def vaT (H : List AO) (e : Expr) (Q : Bool → List AO → Rd → Prop) (r : Rd) : Prop := k (.ev H e fun a H1 r => truP r.c H1 a fun q H => Q q H r) r
noncomputable def cmT (H : List AO) (l x : Expr) (op : CmpOp) (Q : Bool → List AO → Rd → Prop) (r : Rd) : Prop := ev2P k H l x (fun a b H2 r => cmpP r.c H2 op a b fun q H3 => truP r.c H3 q fun q H => Q q H r) r
noncomputable def c2K (op2 : CmpOp) (u : Expr) (b : V) (Q : Bool → List AO → Rd → Prop) (t : Bool) (H4 : List AO) (r : Rd) : Prop := brP t (k (.ev H4 u fun d H5 r => cmpP r.c H5 op2 b d fun e H6 => truP r.c H6 e fun q H => Q q H r) r) (Q false H4 r)
noncomputable def evTP (H : List AO) (e : Expr) (Q : Bool → List AO → Rd → Prop) (r : Rd) : Prop := match e with
  | .UnaryOp op x p => notP op (k (.evT H x fun b H1 r => Q (!b) H1 r) r) (vaT k H (.UnaryOp op x p) Q r)
  | .BoolOp op es _ => twoP es fun a b => k (.evT H a fun q H1 r => andP op (brP q (k (.evT H1 b Q) r) (Q false H1 r)) (brP q (Q true H1 r) (k (.evT H1 b Q) r))) r
  | .IfExp _ _ _ _ => False
  | .Compare l ops rs _ => (match ops with
    | [] => False
    | op :: ops => (match ops with
      | [] => oneP rs fun x => gate (!behindInMarks op x) (cmT k H l x op Q r)
      | op2 :: ops => (match ops with
        | [] => twoP rs fun x u => gate (!behindInMarks op2 u) (ev2P k H l x (fun a b H2 r => cmpP r.c H2 op a b fun q H3 => truP r.c H3 q fun t H4 => c2K k op2 u b Q t H4 r) r)
        | _ :: _ => False)))
  | e => vaT k H e Q r
noncomputable def asgP (H : List AO) (t : Expr) (v : V) (Q : List AO → Rd → Prop) (r : Rd) : Prop := match t with
  | .Name x _ => stP r.ae H x v fun H => Q H r
  | .Tuple ts _ _ => onRef v (fun i => getK H i fun o => seqP o fun vs => gate (noStar ts && Nat.beq ts.length vs.length) (k (.asgL H ts vs Q) r)) False
  | .Attribute o name _ => k (.ev H o fun ov H1 r => Raw (Sat r.c.W r.c.n H1 ov name v fun H => Q H r)) r
  | .Subscript o i _ => ev2P k H o i (fun ov iv H2 r => Raw (Sit r.c.W r.c.n H2 ov iv v fun H => Q H r)) r
  | t => Raw (Asg r.c.W r.c.n r.ae H t v fun H => Q H r)
noncomputable def asLC (e : Expr) (A : Expr → List Comprehension → Scope → Pos → Prop) (B : Prop) : Prop := if h : e.ctorIdx = 8 then Expr.ListComp.elim (motive_1 := fun _ => Prop) e h A else B
noncomputable def asNm (e : Expr) (A : Str → Pos → Prop) (B : Prop) : Prop := if h : e.ctorIdx = 23 then Expr.Name.elim (motive_1 := fun _ => Prop) e h A else B
noncomputable def asQ (x : Str) (Q : Fl → List AO → Rd → Prop) (n : Nat) (H5 : List AO) (r : Rd) : Prop := getK H5 (n + 1) fun o => nsP o fun _ => stP r.ae H5 x (.ref n) fun H6 => getK H6 (n + 1) fun o => nsP o fun _ => setK H6 (n + 1) .dict fun H7 => Q .next H7 r
noncomputable def asgC (H : List AO) (elt : Expr) (gens : List Comprehension) (scope : Scope) (pos : Pos) (x : Str) (tpos p : Pos) (Q : Fl → List AO → Rd → Prop) (r : Rd) : Prop := kindP r.ae (optP (lk x r.ae.scope.names) fun kd => match kd with
        | .cell => k (.ev H (.ListComp elt gens scope pos) fun v H1 r => stP r.ae H1 x v fun H2 => Q .next H2 r) r
        | .local => gate ((tpos.line == p.line && !(scope.names.any fun (n, k) => Fast.sEq n x && (k == .local || k == .cell))) && !firstAsync gens) (lcP k H elt gens scope pos (asQ x Q) r)
        | _ => False)
noncomputable def asgN (H : List AO) (t e : Expr) (p : Pos) (Q : Fl → List AO → Rd → Prop) (r : Rd) : Prop := gate (!isStar t && !isCmp e) (brP (isTup t && isTup e) (Raw (Ex r.c.W r.c.n r.ae H (.Assign [t] e p) fun v H => Q v H r)) (k (.ev H e fun v H1 r => k (.asg H1 t v (Q .next)) r) r))
noncomputable def augK (op : Operator) (x : Str) (e : Expr) (Q : Fl → List AO → Rd → Prop) (a : V) (H1 : List AO) (r : Rd) : Prop := k (.ev H1 e fun b H2 r => inpP r.c H2 op a b fun v H3 => stP r.ae H3 x v fun H4 => Q .next H4 r) r
noncomputable def exP (H : List AO) (s : Stmt) (Q : Fl → List AO → Rd → Prop) (r : Rd) : Prop := match s with
  | .Return eo _ => (match eo with | some e => k (.ev H e fun v H1 r => Q (.ret v) H1 r) r | none => Q (.ret .none) H r)
  | .If t b o _ => k (.evT H t fun q H1 r => brP q (k (.exs H1 b Q) r) (k (.exs H1 o Q) r)) r
  | .Assign ts e p => oneP ts fun t => asLC e
      (fun elt gens scope pos => asNm t (fun x tpos => asgC k H elt gens scope pos x tpos pos Q r) False) (asgN k H t e p Q r)
  | .AugAssign t op e p => asNm t (fun x _ => ldP r.c r.ae H x fun a H1 => augK k op x e Q a H1 r) (Raw (Ex r.c.W r.c.n r.ae H (.AugAssign t op e p) fun v H => Q v H r))
  | .Expr e _ => gate (!isCmp e) (kindP r.ae (k (.ev H e fun _ H1 r => Q .next H1 r) r))
  | .For t i b o _ => gate (!isSet i) (k (.ev H i fun v H1 r => iteP H1 v fun it H2 => Raw (For r.c.W r.c.n r.ae H2 t it b o fun v H => Q v H r)) r)
  | .While t b o _ => Raw (Whl r.c.W r.c.n r.ae H t b o fun v H => Q v H r)
  | .Continue _ => Q .cont H r
  | s => Raw (Ex r.c.W r.c.n r.ae H s fun v H => Q v H r)
noncomputable def flP (f : Fl) (A : Prop) (B : Fl → Prop) : Prop := match f with | .next => A | f => B f
noncomputable def cmE (elt : Expr) (gens : List Comprehension) (scope : Scope) (pos : Pos) (d : Nat) (it acc : V) (Q : List AO → Rd → Prop) (H3 : List AO) (r : Rd) : Prop := k (.ev H3 elt fun u H4 r => biK r.c H4 "list.append" [acc, u] fun _ H5 => k (.cmp H5 elt gens scope pos d it acc Q) r) r
noncomputable def cmI (g' : Comprehension) (elt : Expr) (gens : List Comprehension) (scope : Scope) (pos : Pos) (d : Nat) (it acc : V) (Q : List AO → Rd → Prop) (H3 : List AO) (r : Rd) : Prop := gate (!isSet g'.iter && g'.is_async == 0) (k (.ev H3 g'.iter fun x H4 r => iteP H4 x fun it' H5 => k (.cmpS H5 elt gens scope pos (d + 1) it' acc fun H6 r => k (.cmp H6 elt gens scope pos d it acc Q) r) r) r)
noncomputable def step (g : G) (r : Rd) : Prop := match g with
  | .ev H e Q => evP k H e Q r
  | .evT H e Q => evTP k H e Q r
  | .evL H es Q => (match es with
    | [] => Q [] H r
    | e :: es => gate (!isStar e) (k (.ev H e fun v H1 r => k (.evL H1 es fun vs H2 r => Q (v :: vs) H2 r) r) r))
  | .evK H ks Q => (match ks with
    | [] => Q [] H r
    | q :: ks => k (.ev H q.value fun v H1 r => k (.evK H1 ks fun vs H2 r => Q (v :: vs) H2 r) r) r)
  | .ex H s Q => exP k H s Q r
  | .exs H b Q => (match b with
    | [] => Q .next H r
    | s :: b => k (.ex H s fun f H1 r => flP f (k (.exs H1 b Q) r) fun f => Q f H1 r) r)
  | .asg H t v Q => asgP k H t v Q r
  | .asgL H ts vs Q => (match ts with
    | [] => Q H r
    | t :: ts => (match vs with
      | [] => Q H r
      | v :: vs => k (.asg H t v fun H1 r => k (.asgL H1 ts vs Q) r) r))
  | .cmpS H elt gens scope pos d it acc Q => optP (gens[d]? : Option Comprehension) fun g => gate (g.is_async == 0) (itSelf H it (k (.cmp H elt gens scope pos d it acc Q) r))
  | .cmp H elt gens scope pos d it acc Q => optP (gens[d]? : Option Comprehension) fun g => gate (g.is_async == 0 && g.ifs.isEmpty) <| nxtP r.c H it fun ov H1 => optE ov (Q H1 r) fun v => ownP r.c H1 g.target it v fun H2 => k (.asg H2 g.target v fun H3 r =>
      optE (gens[d + 1]? : Option Comprehension) (cmE k elt gens scope pos d it acc Q H3 r) fun g' => cmI k g' elt gens scope pos d it acc Q H3 r) r
noncomputable def wp : Nat → G → Rd → Prop
  | 0, _, _ => False
  | f + 1, g, r => step (wp f) g r
end
end Mine

-- FILE N7
open PySem PySem.W PyProof.Rows
set_option Elab.async false
set_option autoImplicit false
set_option maxRecDepth 100000
namespace Mine
section
variable {W : Wd} {n : Nat} {ae : AE} {H : List AO}
theorem Ev.mono {e : Expr} {Q Q' : V → List AO → Prop} (h : Ev W n ae H e Q) (k : ∀ v H', Q v H' → Q' v H') : Ev W n ae H e Q' := fun ρ env E => (h ρ env E).mono fun _ _ _ _ ⟨v, r, q⟩ => ⟨v, r, k _ _ q⟩
theorem EvL.mono {e : List Expr} {Q Q' : List V → List AO → Prop} (h : EvL W n ae H e Q) (k : ∀ v H', Q v H' → Q' v H') : EvL W n ae H e Q' := fun ρ env p E => (h ρ env p E).mono fun _ _ _ _ ⟨v, r, q⟩ => ⟨v, r, k _ _ q⟩
theorem EvK.mono {e : List Keyword} {Q Q' : List V → List AO → Prop} (h : EvK W n ae H e Q) (k : ∀ v H', Q v H' → Q' v H') : EvK W n ae H e Q' := fun ρ env p E => (h ρ env p E).mono fun _ _ _ _ ⟨v, r, q⟩ => ⟨v, r, k _ _ q⟩
theorem EvT.mono {e : Expr} {Q Q' : Bool → List AO → Prop} (h : EvT W n ae H e Q) (k : ∀ v H', Q v H' → Q' v H') : EvT W n ae H e Q' := fun ρ env E => (h ρ env E).mono fun _ _ _ _ q => k _ _ q
theorem Ex.mono {e : Stmt} {Q Q' : Fl → List AO → Prop} (h : Ex W n ae H e Q) (k : ∀ v H', Q v H' → Q' v H') : Ex W n ae H e Q' := fun ρ env E => (h ρ env E).mono fun _ _ _ _ ⟨v, r, q⟩ => ⟨v, r, k _ _ q⟩
theorem Exs.mono {e : List Stmt} {Q Q' : Fl → List AO → Prop} (h : Exs W n ae H e Q) (k : ∀ v H', Q v H' → Q' v H') : Exs W n ae H e Q' := fun ρ env E => (h ρ env E).mono fun _ _ _ _ ⟨v, r, q⟩ => ⟨v, r, k _ _ q⟩
theorem Asg.mono {t : Expr} {v : V} {Q Q' : List AO → Prop} (h : Asg W n ae H t v Q) (k : ∀ H', Q H' → Q' H') : Asg W n ae H t v Q' := fun ρ env x E r => (h ρ env x E r).mono fun _ _ _ _ q => k _ q
theorem Own.mono {t : Expr} {it v : V} {Q Q' : List AO → Prop} (h : Own W n H t it v Q) (k : ∀ H', Q H' → Q' H') : Own W n H t it v Q' := fun ρ x y a b => (h ρ x y a b).mono fun _ _ _ _ q => k _ q
theorem Ite.mono {v : V} {Q Q' : V → List AO → Prop} (h : Ite W n H v Q) (k : ∀ v H', Q v H' → Q' v H') : Ite W n H v Q' := fun ρ x r => (h ρ x r).mono fun _ _ _ _ ⟨v, r, q⟩ => ⟨v, r, k _ _ q⟩
theorem Nxt.mono {v : V} {Q Q' : Option V → List AO → Prop} (h : Nxt W n H v Q) (k : ∀ v H', Q v H' → Q' v H') : Nxt W n H v Q' := fun ρ x r => (h ρ x r).mono fun _ _ _ _ ⟨v, r, q⟩ => ⟨v, r, k _ _ q⟩
theorem Cmp.mono {o : CmpOp} {a b : V} {Q Q' : V → List AO → Prop} (h : Cmp W n H o a b Q) (k : ∀ v H', Q v H' → Q' v H') : Cmp W n H o a b Q' := fun ρ x y r s => (h ρ x y r s).mono fun _ _ _ _ ⟨v, r, q⟩ => ⟨v, r, k _ _ q⟩
theorem InP.mono {o : Operator} {a b : V} {Q Q' : V → List AO → Prop} (h : InP W n H o a b Q) (k : ∀ v H', Q v H' → Q' v H') : InP W n H o a b Q' := fun ρ x y r s => (h ρ x y r s).mono fun _ _ _ _ ⟨v, r, q⟩ => ⟨v, r, k _ _ q⟩
theorem Tru.mono {a : V} {Q Q' : Bool → List AO → Prop} (h : Tru W n H a Q) (k : ∀ v H', Q v H' → Q' v H') : Tru W n H a Q' := fun ρ x r => (h ρ x r).mono fun _ _ _ _ q => k _ _ q
theorem Ld.mono {x : Str} {Q Q' : V → List AO → Prop} (h : Ld W n ae H x Q) (k : ∀ v H', Q v H' → Q' v H') : Ld W n ae H x Q' := fun ρ env E => (h ρ env E).mono fun _ _ _ _ ⟨v, r, q⟩ => ⟨v, r, k _ _ q⟩
theorem St.mono {x : Str} {v : V} {Q Q' : List AO → Prop} (h : St W n ae H x v Q) (k : ∀ H', Q H' → Q' H') : St W n ae H x v Q' := fun ρ env y E r => (h ρ env y E r).mono fun _ _ _ _ q => k _ q
theorem Met.mono {o : V} {x : Str} {Q Q' : V → List V → List AO → Prop} (h : Met W n H o x Q) (k : ∀ f fs H', Q f fs H' → Q' f fs H') : Met W n H o x Q' := fun ρ y p r => (h ρ y p r).mono fun _ _ _ _ ⟨f, fs, a, b, q⟩ => ⟨f, fs, a, b, k _ _ _ q⟩
theorem CmpS.mono {e : Expr} {d : Nat} {it acc : V} {Q Q' : List AO → Prop} (h : CmpS W n ae H e d it acc Q) (k : ∀ H', Q H' → Q' H') : CmpS W n ae H e d it acc Q' := fun ρ env x y E r s => (h ρ env x y E r s).mono fun _ _ _ _ q => ⟨q.1, k _ q.2⟩
end
section
variable {r : Rd} {k : G → Rd → Prop} {H : List AO}
theorem oneP_el {α : Type} {l : List α} {f : α → Prop} (h : oneP l f) : ∃ a, l = [a] ∧ f a := by
  induction l using List.casesOn with
  | nil => exact h.elim
  | cons a l => induction l using List.casesOn with
    | nil => exact ⟨a, rfl, h⟩
    | cons _ _ => exact h.elim
theorem twoP_el {α : Type} {l : List α} {f : α → α → Prop} (h : twoP l f) : ∃ a b, l = [a, b] ∧ f a b := by
  induction l using List.casesOn with
  | nil => exact h.elim
  | cons a l =>
    obtain ⟨b, e, h⟩ := oneP_el h
    exact ⟨a, b, by rw [e], h⟩
theorem conP_el {W : Wd} {N : Nat} {ae : AE} {v : Const} {n : Nat} {pos : Pos} {Q : V → List AO → Prop} (h : conP H v Q (Raw (Ev W N ae H (.Constant v n pos) Q))) : Ev W N ae H (.Constant v n pos) Q := by
  induction v <;> first | exact .int h | exact .flt h | exact .str h | exact .bool h | exact .none h | exact h.out
theorem and3 {a b : Bool} (h : (a && b) = true) : a = true ∧ b = true := Bool.and_eq_true_iff.mp h
theorem not_f {b : Bool} (h : (!b) = true) : b = false := by induction b; rfl; cases h
theorem lcK_el (hk : ∀ g r, k g r → g.sem r) (e0 : r.ae.scope.kind = .function) {elt : Expr} {gens : List Comprehension} {scope : Scope} {pos : Pos} {cs : List (Str × Nat)} {Q : Nat → List AO → Rd → Prop} {it : V} (h : lcK k elt gens scope pos (compF r.ae.scope.names scope.names) cs Q it H r) :
    CmpS r.c.W r.c.n (compAE r.ae scope cs (H ++ [.lst []])) (H ++ [.lst []] ++ [.ns []]) (.ListComp elt gens scope pos) 0 it (.ref H.length) fun H5 => Q H.length H5 r := by
  unfold lcK at h
  rw [lenK_eq, snocK_eq, snocK_eq, Nat.zero_add] at h
  have := hk _ _ h
  rw [compF_eq e0] at this
  unfold compAE compScope
  rw [List.length_append]
  exact this
theorem lcP_el (hk : ∀ g r, k g r → g.sem r) {elt : Expr} {gens : List Comprehension} {scope : Scope} {pos : Pos} {Q : Nat → List AO → Rd → Prop} (h : lcP k H elt gens scope pos Q r) :
    ∃ g gs cs, gens = g :: gs ∧ (isSet g.iter = false ∧ firstAsync (g :: gs) = false) ∧ closA r.ae.cells scope.names [] = some cs ∧ scope.kind = .function ∧ noCells scope = true ∧ localsOk r.ae.scope scope = true ∧
      Ev r.c.W r.c.n r.ae H g.iter fun x H1 => Ite r.c.W r.c.n H1 x fun it H2 => CmpS r.c.W r.c.n (compAE r.ae scope cs (H2 ++ [.lst []])) (H2 ++ [.lst []] ++ [.ns []]) (.ListComp elt (g :: gs) scope pos) 0 it (.ref H2.length) fun H5 => Q H2.length H5 r := by
  induction gens using List.casesOn with
  | nil => exact h.elim
  | cons g gs =>
    obtain ⟨e0, h⟩ := kindP_el h
    obtain ⟨kd, nm, gn, co, mo⟩ := scope
    induction kd <;> try exact h.elim
    obtain ⟨cs, e1, h⟩ := optP_el h
    obtain ⟨e2, h⟩ := gate_el h
    obtain ⟨e3, e4⟩ := and3 e2
    obtain ⟨ea, e4⟩ := and3 e4
    obtain ⟨e5, e6⟩ := and3 e4
    rw [closF_eq] at e1
    rw [locsF_eq, compF_eq e0] at e6
    exact ⟨g, gs, cs, rfl, ⟨not_f e3, not_f ea⟩, e1, rfl, e5, e6, .mono (hk _ _ h) fun x H1 h => .mono (iteP_el h) fun it H2 h => lcK_el hk e0 h⟩
theorem attB_el {o : Expr} {name : Str} (h : isCal o = false) (env : Env) (whole : Sem Value) : attributeBase o name env whole = whole := by induction o using PySem.Expr.casesOn <;> first | rfl | cases h
theorem mcf_el {as : List Expr} {pos : Pos} (h : noStar as = true) (hl : as.length < 20) (env : Env) : methodCallForm (as.length + ([] : List Keyword).length) (backTo pos (starEach as env)) (backToKw pos (keywordEach [] env)) = true := by
  unfold methodCallForm
  rw [noStar_all h pos env]
  exact decide_eq_true (by show as.length + 0 + 0 < 30; lia)
theorem EvO.mono {W : Wd} {n : Nat} {ae : AE} {e : Option Expr} {Q Q' : V → List AO → Prop} (h : EvO W n ae H e Q) (k : ∀ v H', Q v H' → Q' v H') : EvO W n ae H e Q' := by
  induction e with
  | none => exact k _ _ h
  | some e => exact Ev.mono h k
theorem evO_el (hk : ∀ g r, k g r → g.sem r) {e : Option Expr} {Q : V → List AO → Rd → Prop} (h : evO k H e Q r) : EvO r.c.W r.c.n r.ae H e fun v H => Q v H r := by
  induction e with
  | none => exact h
  | some e => exact hk _ _ h
theorem ev2_el (hk : ∀ g r, k g r → g.sem r) {a b : Expr} {K : V → V → List AO → Rd → Prop} {Z : V → V → List AO → Prop} (h : ev2P k H a b K r) (j : ∀ x y H, K x y H r → Z x y H) : Ev r.c.W r.c.n r.ae H a fun x H1 => Ev r.c.W r.c.n r.ae H1 b (Z x) :=
  .mono (hk _ _ h) fun _ _ h => .mono (hk _ _ h) fun _ _ h => j _ _ _ h
theorem li_el {f : List V → AO} {vs : List V} {Q : V → List AO → Rd → Prop} (h : liK f Q vs H r) : vs.length ≤ sizeLine ∧ Q (.ref H.length) (H ++ [f vs]) r := by
  obtain ⟨e, h⟩ := gate_el h
  exact ⟨by rw [sizeLine_val]; exact of_decide_eq_true e, newK_eq.mp h⟩
theorem boA_el (hk : ∀ g r, k g r → g.sem r) {b : Expr} {x : V} {Q : V → List AO → Rd → Prop} (h : boK k .And b Q x H r) : Tru r.c.W r.c.n H x fun q H2 => (q = false → Q x H2 r) ∧ (q = true → Ev r.c.W r.c.n r.ae H2 b fun v H => Q v H r) :=
  .mono (truP_el h) fun _ _ h => ⟨(brP_el h).2, fun q => hk _ _ ((brP_el h).1 q)⟩
theorem boO_el (hk : ∀ g r, k g r → g.sem r) {b : Expr} {x : V} {Q : V → List AO → Rd → Prop} (h : boK k .Or b Q x H r) : Tru r.c.W r.c.n H x fun q H2 => (q = true → Q x H2 r) ∧ (q = false → Ev r.c.W r.c.n r.ae H2 b fun v H => Q v H r) :=
  .mono (truP_el h) fun _ _ h => ⟨(brP_el h).1, fun q => hk _ _ ((brP_el h).2 q)⟩
theorem meK_el (hk : ∀ g r, k g r → g.sem r) {name : Str} {as : List Expr} {x : V} {Q : V → List AO → Rd → Prop} (h : meK k name as Q x H r) :
    Met r.c.W r.c.n H x name fun fv fs H2 => EvL r.c.W r.c.n r.ae H2 as fun vs H3 => EvK r.c.W r.c.n r.ae H3 [] fun us H4 => Kee r.c.W r.c.n H4 fv ∧ Cl r.c.W r.c.n H4 fv (fs ++ vs) [] us fun v H => Q v H r :=
  .mono (metP_el h) fun _ _ _ h => .mono (hk _ _ h) fun _ _ h => EvK.nil (clP_el h)
theorem caK_el (hk : ∀ g r, k g r → g.sem r) {as : List Expr} {ks : List Keyword} {x : V} {Q : V → List AO → Rd → Prop} (h : caK k as ks Q x H r) :
    EvL r.c.W r.c.n r.ae H as fun vs H2 => EvK r.c.W r.c.n r.ae H2 ks fun us H3 => Kee r.c.W r.c.n H3 x ∧ Cl r.c.W r.c.n H3 x vs (ks.filterMap (·.arg)) us fun v H => Q v H r :=
  .mono (hk _ _ h) fun _ _ h => .mono (hk _ _ h) fun _ _ h => clP_el h
theorem calP_el (hk : ∀ g r, k g r → g.sem r) {f : Expr} {as : List Expr} {ks : List Keyword} {pos : Pos} {Q : V → List AO → Rd → Prop} (h : calP k H f as ks pos Q r) : Ev r.c.W r.c.n r.ae H (.Call f as ks pos) fun v H => Q v H r := by
  induction f using PySem.Expr.casesOn with
  | Attribute o name apos =>
    obtain ⟨e, h0⟩ := gate_el h
    obtain ⟨e0, e⟩ := and3 e
    obtain ⟨e1, e⟩ := and3 e
    obtain ⟨e2, e⟩ := and3 e
    obtain ⟨e3, e4⟩ := and3 e
    obtain rfl := List.isEmpty_iff.mp e0
    exact .meth (kn := []) (attB_el (not_f e1)) e2 (mcf_el e3 (of_decide_eq_true e4)) (noStar_any e3 _) (fun _ => rfl) (fun _ => rfl) (.mono (hk _ _ h0) fun a H1 h => meK_el hk h)
  | Name x p =>
    obtain ⟨e, h⟩ := gate_el h
    obtain ⟨e2, e3⟩ := and3 e
    exact .call (fun env => rfl) (noStar_any e2 _) (allArg_all e3 _) (allArg_map ks _) (.mono (hk _ _ h) fun a H1 h => caK_el hk h)
  | _ => exact h.elim
theorem lcQ_el {n : Nat} {Q : V → List AO → Rd → Prop} (h : lcQ Q n H r) : (∃ m, H[n + 1]? = some (.ns m)) ∧ Q (.ref n) (H.set (n + 1) .dict) r := by
  obtain ⟨o, q, h⟩ := getK_el h
  obtain ⟨m, e, h⟩ := nsP_el h
  exact ⟨⟨m, by rw [q, e]⟩, setK_eq.mp h⟩
theorem firstAs {elt : Expr} {g : Comprehension} {gs : List Comprehension} {scope : Scope} {pos : Pos} (h : firstAsync (g :: gs) = false) (env : Env) :
    eval (.ListComp elt (g :: gs) scope pos) env = comprehension (.ListComp elt (g :: gs) scope pos) scope env (firstIterPos (g :: gs) pos) (newList []) false (eval g.iter env) := by
  rw [arm_eval_ListComp, h]; induction g using PySem.Comprehension.casesOn; rfl
theorem evP_el (hk : ∀ g r, k g r → g.sem r) {e : Expr} {Q : V → List AO → Rd → Prop} (h : evP k H e Q r) : Ev r.c.W r.c.n r.ae H e fun v H => Q v H r := by
  induction e using PySem.Expr.casesOn with
  | Name x p =>
    obtain ⟨e, h⟩ := gate_el h
    exact .name (ldP_el h) (beq_eq_false_iff_ne.mpr fun q => by rw [Fast.sEq_iff.mpr q] at e; cases e)
  | Constant => exact conP_el h
  | BinOp => exact .bin (ev2_el hk h fun _ _ _ h => binP_el h)
  | UnaryOp => exact .un (.mono (hk _ _ h) fun a H1 h => unP_el h)
  | IfExp => exact .ite (.mono (hk _ _ h) fun a H1 h => ⟨fun q => hk _ _ ((brP_el h).1 q), fun q => hk _ _ ((brP_el h).2 q)⟩)
  | Compare =>
    obtain ⟨op, rfl, h⟩ := oneP_el h
    obtain ⟨x, rfl, h⟩ := oneP_el h
    obtain ⟨e, h⟩ := gate_el h
    exact .cmp (ev2_el hk h fun _ _ _ h => cmpP_el h) (not_f e)
  | BoolOp op es p =>
    obtain ⟨a, b, rfl, h⟩ := twoP_el h
    induction op with
    | And => exact .and2 (.mono (hk _ _ h) fun a H1 h => boA_el hk h)
    | Or => exact .or2 (.mono (hk _ _ h) fun a H1 h => boO_el hk h)
  | List => exact .list (.mono (hk _ _ h) fun vs H1 h => li_el h)
  | Tuple => exact .tuple (.mono (hk _ _ h) fun vs H1 h => li_el h)
  | Subscript => exact .sub (ev2_el hk h fun _ _ _ h => gitP_el h)
  | Attribute o name pos =>
    obtain ⟨e, h⟩ := gate_el h
    exact .attr (attB_el (not_f e)) (.mono (hk _ _ h) fun a H1 h => h.out)
  | Call => exact calP_el hk h
  | ListComp =>
    obtain ⟨g, gs, cs, rfl, ⟨h1, h1'⟩, h2, h3, h4, h5, h6⟩ := lcP_el hk h
    exact .listComp (isSet_el h1) h2 h3 h4 h5 (firstAs h1') (.mono h6 fun x H1 h => .mono h fun it H2 h => .mono h fun H5 h => lcQ_el h)
  | Slice l u s p => exact .slice (.mono (evO_el hk h) fun a H1 h => .mono (evO_el hk h) fun b H2 h => .mono (evO_el hk h) fun d H3 h => newK_eq.mp h)
  | _ => exact h.out
theorem vaT_el (hk : ∀ g r, k g r → g.sem r) {e : Expr} {Q : Bool → List AO → Rd → Prop} (h : vaT k H e Q r) (hp : ∀ env whole, isTrue e env whole = (do let v ← whole; PySem.standAt e.pos; PySem.holding [v] (truthy v))) : EvT r.c.W r.c.n r.ae H e fun v H => Q v H r :=
  .value (.mono (hk _ _ h) fun a H1 h => truP_el h) hp
theorem cmT_el (hk : ∀ g r, k g r → g.sem r) {l x : Expr} {op : CmpOp} {Q : Bool → List AO → Rd → Prop} (h : cmT k H l x op Q r) :
    Ev r.c.W r.c.n r.ae H l fun a H1 => Ev r.c.W r.c.n r.ae H1 x fun b H2 => Cmp r.c.W r.c.n H2 op a b fun q H3 => Tru r.c.W r.c.n H3 q fun q H => Q q H r :=
  ev2_el hk h fun _ _ _ h => .mono (cmpP_el h) fun _ _ h => truP_el h
theorem c2K_el (hk : ∀ g r, k g r → g.sem r) {u : Expr} {op : CmpOp} {b : V} {t : Bool} {Q : Bool → List AO → Rd → Prop} (h : c2K k op u b Q t H r) :
    (t = false → Q false H r) ∧ (t = true → Ev r.c.W r.c.n r.ae H u fun d H5 => Cmp r.c.W r.c.n H5 op b d fun e H6 => Tru r.c.W r.c.n H6 e fun q H => Q q H r) :=
  ⟨(brP_el h).2, fun q => .mono (hk _ _ ((brP_el h).1 q)) fun _ _ h => .mono (cmpP_el h) fun _ _ h => truP_el h⟩
theorem evTP_el (hk : ∀ g r, k g r → g.sem r) {e : Expr} {Q : Bool → List AO → Rd → Prop} (h : evTP k H e Q r) : EvT r.c.W r.c.n r.ae H e fun v H => Q v H r := by
  induction e using PySem.Expr.casesOn <;> try exact vaT_el hk h fun _ _ => rfl
  case UnaryOp op x p =>
    induction op <;> try exact vaT_el hk h fun _ _ => rfl
    exact .not (hk _ _ h)
  case BoolOp op es p =>
    obtain ⟨a, b, rfl, h⟩ := twoP_el h
    induction op with
    | And => exact .and2 (.mono (hk _ _ h) fun a H1 h => ⟨(brP_el h).2, fun q => hk _ _ ((brP_el h).1 q)⟩)
    | Or => exact .or2 (.mono (hk _ _ h) fun a H1 h => ⟨(brP_el h).1, fun q => hk _ _ ((brP_el h).2 q)⟩)
  case IfExp => exact h.elim
  case Compare l ops rs p =>
    induction ops using List.casesOn with
    | nil => exact h.elim
    | cons op ops =>
      induction ops using List.casesOn with
      | nil =>
        obtain ⟨x, rfl, h⟩ := oneP_el h
        obtain ⟨e, h⟩ := gate_el h
        exact .cmp (cmT_el hk h) (not_f e)
      | cons op2 ops =>
        induction ops using List.casesOn with
        | cons _ _ => exact h.elim
        | nil =>
          obtain ⟨x, u, rfl, h⟩ := twoP_el h
          obtain ⟨e, h⟩ := gate_el h
          exact .chain2 (ev2_el hk h fun _ _ _ h => .mono (cmpP_el h) fun q H3 h => .mono (truP_el h) fun t H4 h => c2K_el hk h) (not_f e)
theorem asgP_el (hk : ∀ g r, k g r → g.sem r) {t : Expr} {v : V} {Q : List AO → Rd → Prop} (h : asgP k H t v Q r) : Asg r.c.W r.c.n r.ae H t v fun H => Q H r := by
  induction t using PySem.Expr.casesOn <;> try exact h.out
  case Name => exact .name (stP_el h)
  case Tuple =>
    refine onRef_e h (fun i e h => ?_) False.elim
    subst e
    obtain ⟨o, h1, h⟩ := getK_el h
    induction o <;> try exact h.elim
    · obtain ⟨e, h⟩ := gate_el h
      obtain ⟨e1, e2⟩ := and3 e
      exact .tuple (noStar_asg e1) ⟨i, rfl, .inl h1⟩ (Nat.eq_of_beq_eq_true e2) (hk _ _ h)
    · obtain ⟨e, h⟩ := gate_el h
      obtain ⟨e1, e2⟩ := and3 e
      exact .tuple (noStar_asg e1) ⟨i, rfl, .inr h1⟩ (Nat.eq_of_beq_eq_true e2) (hk _ _ h)
  case Attribute => exact .attr (.mono (hk _ _ h) fun a H1 h => h.out)
  case Subscript => exact .sub (ev2_el hk h fun _ _ _ h => h.out)
theorem swaps_not {t e : Expr} (h : isCmp e = false) (l : Nat) (env : Env) : swapsWithSole [t] e l env = pure false := by induction e using PySem.Expr.casesOn <;> first | rfl | cases h
theorem swapsE_not {e : Expr} (h : isCmp e = false) (l : Nat) (env : Env) : swapsWith e none l env = pure false := by induction e using PySem.Expr.casesOn <;> first | rfl | cases h
theorem swapped_not {t e : Expr} (h : (isTup t && isTup e) = false) (env : Env) : swappedStores [t] e env = pure none := by induction t using PySem.Expr.casesOn <;> first | rfl | (induction e using PySem.Expr.casesOn <;> first | rfl | cases h)
theorem star_one {t : Expr} (h : isStar t = false) (env : Env) : assignEach [t] env = [(false, assign t env)] := by induction t using PySem.Expr.casesOn <;> first | rfl | cases h
theorem sEq_beq {n x : Str} : Fast.sEq n x = (n == x) := by
  cases hs : Fast.sEq n x with
  | true => exact (beq_iff_eq.mpr (Fast.sEq_iff.mp hs)).symm
  | false => exact (beq_eq_false_iff_ne.mpr fun e => by rw [Fast.sEq_iff.mpr e] at hs; cases hs).symm
theorem asgN_el (hk : ∀ g r, k g r → g.sem r) {t e : Expr} {p : Pos} {Q : Fl → List AO → Rd → Prop} (h : asgN k H t e p Q r) : Ex r.c.W r.c.n r.ae H (.Assign [t] e p) fun v H => Q v H r := by
  obtain ⟨e, h⟩ := gate_el h
  obtain ⟨e1, e2⟩ := and3 e
  refine brE h (fun _ h => h.out) fun e3 h => ?_
  exact .assign (fun env _ => swaps_not (not_f e2) _ _) (fun env _ => swapped_not e3 _) (star_one (not_f e1)) (.mono (hk _ _ h) fun v H1 h => hk _ _ h)
theorem swLoc {elt : Expr} {gens : List Comprehension} {scope : Scope} {pos : Pos} {x : Str} {tpos : Pos} {env : Env} {l : Nat} (e0 : env.scope.kind = .function) (e1 : env.scope.names.lookup x = some .local)
    (e : (tpos.line == pos.line && !(scope.names.any fun (n, k) => Fast.sEq n x && (k == .local || k == .cell))) = true) : swapsWithSole [.Name x tpos] (.ListComp elt gens scope pos) l env = pure true := by
  have q1 : env.kindOf x = some .local := e1
  have q2 : env.blockKind = .function := by unfold Env.blockKind; rw [e0]; rfl
  have q3 : (scope.names.any fun (n, k) => n == x && (k == .local || k == .cell)) = (scope.names.any fun (n, k) => Fast.sEq n x && (k == .local || k == .cell)) := by
    congr 1
    funext p
    obtain ⟨n, k⟩ := p
    show (n == x && _) = (Fast.sEq n x && _)
    rw [sEq_beq]
  obtain ⟨eb, ec⟩ := and3 e
  show (pure (env.blockKind == .function && env.kindOf x == some .local && tpos.line == pos.line && !(scope.names.any fun (n, k) => n == x && (k == .local || k == .cell))) : Sem Bool) = pure true
  rw [q1, q2, q3, not_f ec, eb]
  rfl
theorem swCell {elt : Expr} {gens : List Comprehension} {scope : Scope} {pos : Pos} {x : Str} {tpos : Pos} {env : Env} {l : Nat} (e1 : env.scope.names.lookup x = some .cell) : swapsWithSole [.Name x tpos] (.ListComp elt gens scope pos) l env = pure false := by
  have q1 : env.kindOf x = some .cell := e1
  show (pure (env.blockKind == .function && env.kindOf x == some .local && tpos.line == pos.line && !(scope.names.any fun (n, k) => n == x && (k == .local || k == .cell))) : Sem Bool) = pure false
  rw [q1]
  have : (some NameKind.cell == some NameKind.local) = false := rfl
  rw [this, Bool.and_false, Bool.false_and, Bool.false_and]
theorem asQ_el {x : Str} {n : Nat} {Q : Fl → List AO → Rd → Prop} (h : asQ x Q n H r) : (∃ m, H[n + 1]? = some (.ns m)) ∧ St r.c.W r.c.n r.ae H x (.ref n) fun H6 => (∃ m, H6[n + 1]? = some (.ns m)) ∧ Q .next (H6.set (n + 1) .dict) r := by
  obtain ⟨o, r1, h⟩ := getK_el h
  obtain ⟨m, r2, h⟩ := nsP_el h
  refine ⟨⟨m, by rw [r1, r2]⟩, St.mono (stP_el h) fun H6 h => ?_⟩
  exact lcQ_el (Q := fun _ => Q .next) h
theorem asgC_el (hk : ∀ g r, k g r → g.sem r) {elt : Expr} {gens : List Comprehension} {scope : Scope} {pos : Pos} {x : Str} {tpos p : Pos} {Q : Fl → List AO → Rd → Prop} (h : asgC k H elt gens scope pos x tpos pos Q r) : Ex r.c.W r.c.n r.ae H (.Assign [.Name x tpos] (.ListComp elt gens scope pos) p) fun v H => Q v H r := by
  obtain ⟨e0, h⟩ := kindP_el h
  obtain ⟨kd, e1, h⟩ := optP_el h
  rw [lk_eq] at e1
  induction kd <;> try exact h.elim
  · obtain ⟨e, h⟩ := gate_el h
    obtain ⟨ee, ea⟩ := and3 e
    obtain ⟨g, gs, cs, rfl, ⟨h1, h1'⟩, h2, h3, h4, h5, h6⟩ := lcP_el hk h
    exact .assignComp (fun env q => swLoc (by rw [q, e0]) (by rw [q, e1]) ee) (isSet_el h1) h2 h3 h4 h5 (not_f ea) (.mono h6 fun x H1 h => .mono h fun it H2 h => .mono h fun H5 h => asQ_el h)
  · exact .assign (fun env q => swCell (by rw [q, e1])) (fun _ _ => rfl) (fun _ => rfl) (.mono (hk _ _ h) fun v H1 h => .name (stP_el h))
theorem augK_el (hk : ∀ g r, k g r → g.sem r) {op : Operator} {x : Str} {e : Expr} {a : V} {Q : Fl → List AO → Rd → Prop} (h : augK k op x e Q a H r) : Ev r.c.W r.c.n r.ae H e fun b H2 => InP r.c.W r.c.n H2 op a b fun v H3 => St r.c.W r.c.n r.ae H3 x v fun H4 => Q .next H4 r :=
  .mono (hk _ _ h) fun _ _ h => .mono (inpP_el h) fun _ _ h => stP_el h
theorem exP_el (hk : ∀ g r, k g r → g.sem r) {s : Stmt} {Q : Fl → List AO → Rd → Prop} (h : exP k H s Q r) : Ex r.c.W r.c.n r.ae H s fun v H => Q v H r := by
  induction s using PySem.Stmt.casesOn <;> try exact h.out
  case Return eo p =>
    induction eo with
    | none => exact Ex.ret0 h
    | some e => exact .ret (hk _ _ h)
  case If => exact .ite (.mono (hk _ _ h) fun q H1 h => ⟨fun e => hk _ _ ((brP_el h).1 e), fun e => hk _ _ ((brP_el h).2 e)⟩)
  case Assign ts e p =>
    obtain ⟨t, rfl, h⟩ := oneP_el h
    induction e using PySem.Expr.casesOn with
    | ListComp elt gens scope pos =>
      induction t using PySem.Expr.casesOn with
      | Name x tpos => exact asgC_el hk h
      | _ => exact h.elim
    | _ => exact asgN_el hk h
  case AugAssign t op e p =>
    induction t using PySem.Expr.casesOn <;> try exact h.out
    exact .aug (.mono (ldP_el h) fun a H1 h => augK_el hk h)
  case Expr =>
    obtain ⟨e, h⟩ := gate_el h
    obtain ⟨e1, h⟩ := kindP_el h
    exact .expr e1 (swapsE_not (not_f e) _) (.mono (hk _ _ h) fun _ _ h => h)
  case For =>
    obtain ⟨e, h⟩ := gate_el h
    exact .for (fun env x => isSet_el (not_f e) env x) (.mono (hk _ _ h) fun v H1 h => .mono (iteP_el h) fun it H2 h => h.out)
  case While => exact .while h.out
  case Continue => exact .cont h
theorem cmE_el (hk : ∀ g r, k g r → g.sem r) {elt : Expr} {gens : List Comprehension} {scope : Scope} {pos : Pos} {d : Nat} {it acc : V} {Q : List AO → Rd → Prop} (h : cmE k elt gens scope pos d it acc Q H r) :
    Ev r.c.W r.c.n r.ae H elt fun u H4 => Cl r.c.W r.c.n H4 (.bi "list.append") [acc, u] [] [] fun _ H5 => Cmp' r.c.W r.c.n r.ae H5 (.ListComp elt gens scope pos) d it acc fun H => Q H r :=
  .mono (hk _ _ h) fun u H4 h => Cl.mono (biK_el h) fun _ H5 h => hk _ _ h
theorem cmI_el (hk : ∀ g r, k g r → g.sem r) {g' : Comprehension} {elt : Expr} {gens : List Comprehension} {scope : Scope} {pos : Pos} {d : Nat} {it acc : V} {Q : List AO → Rd → Prop} (h : cmI k g' elt gens scope pos d it acc Q H r) :
    (∀ env x, foldedSetIterable g'.iter env x = pure x) ∧ g'.is_async = 0 ∧ Ev r.c.W r.c.n r.ae H g'.iter fun x H4 => Ite r.c.W r.c.n H4 x fun it' H5 => CmpS r.c.W r.c.n r.ae H5 (.ListComp elt gens scope pos) (d + 1) it' acc fun H6 => Cmp' r.c.W r.c.n r.ae H6 (.ListComp elt gens scope pos) d it acc fun H => Q H r := by
  obtain ⟨e5, h⟩ := gate_el h
  obtain ⟨e6, e7⟩ := and3 e5
  exact ⟨isSet_el (not_f e6), eq_of_beq e7, .mono (hk _ _ h) fun x H4 h => .mono (iteP_el h) fun it' H5 h => .mono (hk _ _ h) fun H6 h => hk _ _ h⟩
theorem step_el (hk : ∀ g r, k g r → g.sem r) {g : G} (h : step k g r) : g.sem r := by
  induction g
  case ev => exact evP_el hk h
  case evT => exact evTP_el hk h
  case evL H es Q =>
    induction es using List.casesOn with
    | nil => exact EvL.nil h
    | cons e es =>
      obtain ⟨e, h⟩ := gate_el h
      exact EvL.cons (.mono (hk _ _ h) fun v H1 h => hk _ _ h) (isStar_el (not_f e))
  case evK H ks Q =>
    induction ks using List.casesOn with
    | nil => exact EvK.nil h
    | cons q ks =>
      obtain ⟨a, e, p⟩ := q
      exact EvK.cons (Q := fun v H => Q v H r) (.mono (hk _ _ h) fun v H1 h => hk _ _ h)
  case ex => exact exP_el hk h
  case exs H b Q =>
    induction b using List.casesOn with
    | nil => exact Exs.nil h
    | cons s b =>
      refine Exs.cons (.mono (hk _ _ h) fun f H1 h => ?_)
      induction f <;> first | exact hk _ _ h | exact h
  case asg => exact asgP_el hk h
  case asgL H ts vs Q =>
    induction ts using List.casesOn with
    | nil => exact h
    | cons t ts =>
      induction vs using List.casesOn with
      | nil => exact h
      | cons v vs => exact Asg.mono (hk (.asg ..) r h) fun H1 h => hk (.asgL ..) r h
  case cmpS =>
    obtain ⟨g, e1, h⟩ := optP_el h
    obtain ⟨e2, h⟩ := gate_el h
    obtain ⟨h, hi⟩ := itSelf_el (W := r.c.W) (n := r.c.n) h
    exact CmpS.start e1 (eq_of_beq e2) (hi _ ⟨rfl, rfl⟩) (hk _ _ h)
  case cmp =>
    obtain ⟨g, e1, h⟩ := optP_el h
    obtain ⟨e2, h⟩ := gate_el h
    obtain ⟨e3, e4⟩ := and3 e2
    refine Cmp'.turn e1 (eq_of_beq e3) (List.isEmpty_iff.mp e4) (.mono (nxtP_el h) fun ov H1 h => ?_)
    refine optE_e h (fun e h' => ?_) fun v e h' => ?_
    · subst e; exact h'
    · subst e
      refine .mono (ownP_el h') fun H2 h => .mono (hk _ _ h) fun H3 h => ?_
      exact optE_e h (fun e h => e ▸ cmE_el hk h) fun g' e h => e ▸ cmI_el hk h
theorem wp_el : ∀ (f : Nat) {g : G} {r : Rd}, wp f g r → g.sem r
  | 0, _, _, h => h.elim
  | f + 1, _, _, h => step_el (fun _ _ q => wp_el f q) h
end
end Mine

-- FILE R1
open PySem PySem.W PyProof.Rows
set_option Elab.async false
set_option autoImplicit false
set_option maxRecDepth 100000
namespace Mine
/-! ### garbage dropped, reckoned -/
noncomputable def Fl.ren (m : List Nat) : Fl → Fl
  | .ret v => .ret (v.ren m)
  | f => f
noncomputable def TidyS (N : Nat) (Q : Fl → List AO → Prop) (v : Fl) (H' : List AO) : Prop := ∃ m2 L v', View (List.range N ++ m2) L H' ∧ v = Fl.ren (List.range N ++ m2) v' ∧ Q v' L
noncomputable section
noncomputable def idx : List Nat → Nat → Nat → Option Nat
  | [], _, _ => none
  | j :: r, i, k => Bool.rec (idx r i (k + 1)) (some k) (Nat.beq j i)
theorem idx_c {j i k : Nat} {r : List Nat} : idx (j :: r) i k = Bool.rec (idx r i (k + 1)) (some k) (Nat.beq j i) := rfl
noncomputable def unV (m : List Nat) (v : V) : Option V := match v with
  | .ref i => (idx m i 0).map V.ref
  | v => some v
noncomputable def unVs (m : List Nat) : List V → Option (List V)
  | [] => some []
  | v :: r => (unV m v).bind fun v' => (unVs m r).map (v' :: ·)
noncomputable def unEs (m : List Nat) : List (Str × V) → Option (List (Str × V))
  | [] => some []
  | (x, v) :: r => (unV m v).bind fun v' => (unEs m r).map ((x, v') :: ·)
noncomputable def unCs (m : List Nat) : List (Str × Nat) → Option (List (Str × Nat))
  | [] => some []
  | (x, i) :: r => (idx m i 0).bind fun i' => (unCs m r).map ((x, i') :: ·)
noncomputable def unD (m : List Nat) : Option Nat → Option (Option Nat)
  | none => some none
  | some i => (idx m i 0).map some
noncomputable def unO (m : List Nat) (o : AO) : Option AO := match o with
  | .lst vs => (unVs m vs).map .lst
  | .tup vs => (unVs m vs).map .tup
  | .ns es => (unEs m es).map .ns
  | .cell none => some (.cell none)
  | .cell (some v) => (unV m v).map fun v => .cell (some v)
  | .inst C d => (idx m d 0).map fun d => .inst C d
  | .fn f => (unCs m f.cells).bind fun cs => (unD m f.dict).map fun d => .fn { f with cells := cs, dict := d }
  | .flds c vs => (unVs m vs).map fun vs => .flds c vs
  | .iter c vs => (unVs m vs).map fun vs => .iter c vs
  | .enum own it i old => (unD m own).bind fun t => (idx m it 0).bind fun j => (unV m old).map fun old => .enum t j i old
  | o => some o
noncomputable def mem (i : Nat) : List Nat → Bool
  | [] => false
  | j :: r => Bool.rec (mem i r) true (Nat.beq i j)
theorem mem_c {i j : Nat} {r : List Nat} : mem i (j :: r) = Bool.rec (mem i r) true (Nat.beq i j) := rfl
noncomputable def ndB : List Nat → Bool
  | [] => true
  | a :: r => Bool.rec (ndB r) false (mem a r)
theorem ndB_c {a : Nat} {r : List Nat} : ndB (a :: r) = Bool.rec (ndB r) false (mem a r) := rfl
noncomputable def unL (rw m : List Nat) (H : List AO) : List Nat → (List AO → Prop) → Prop
  | [], k => k []
  | j :: r, k => getK H j fun o => brP (mem j rw) (o.ren m = o ∧ unL rw m H r fun L => k (o :: L)) (optP (unO m o) fun o' => unL rw m H r fun L => k (o' :: L))
noncomputable def upto : Nat → List Nat → List Nat
  | 0, l => l
  | n + 1, l => upto n (n :: l)
noncomputable def tdK (rw : List Nat) (N : Nat) (m2 : List Nat) (v : V) (H' : List AO) (Q : V → List AO → Prop) : Prop :=
  (fun m => gate (ndB m) (optP (unV m v) fun v' => unL rw m H' m fun L => Q v' L)) (upto N m2)
noncomputable def tdS (rw : List Nat) (N : Nat) (m2 : List Nat) (v : Fl) (H' : List AO) (Q : Fl → List AO → Prop) : Prop :=
  (fun m => gate (ndB m) (match v with | .ret v => optP (unV m v) fun v' => unL rw m H' m fun L => Q (.ret v') L | f => unL rw m H' m fun L => Q f L)) (upto N m2)
end
section
variable {W : Wd} {n : Nat} {H : List AO} {ρ : Rho} {ae : AE}
theorem upto_eq : ∀ {N : Nat} {l : List Nat}, upto N l = List.range N ++ l
  | 0, l => rfl
  | n + 1, l => by show upto n (n :: l) = _; rw [upto_eq, List.range_succ, List.append_assoc]; rfl
theorem idx_get : ∀ {m : List Nat} {i k q : Nat}, idx m i k = some q → ∃ d, q = k + d ∧ m[d]? = some i
  | [], _, _, _, h => by cases h
  | j :: r, i, k, q, h => by
    rw [idx_c] at h
    cases hb : Nat.beq j i with
    | true => rw [hb] at h; cases h; exact ⟨0, rfl, by rw [Nat.eq_of_beq_eq_true hb]; rfl⟩
    | false =>
      rw [hb] at h
      obtain ⟨d, e1, e2⟩ := idx_get (m := r) h
      exact ⟨d + 1, by lia, e2⟩
theorem idx0 {m : List Nat} {i q : Nat} (h : idx m i 0 = some q) : m[q]? = some i := by
  obtain ⟨d, e1, e2⟩ := idx_get h
  rw [e1, Nat.zero_add]; exact e2
theorem unV_ren {m : List Nat} {v v' : V} (h : unV m v = some v') : v'.ren m = v := by
  induction v <;> try (cases h; rfl)
  obtain ⟨q, h1, rfl⟩ := Option.map_eq_some_iff.mp h
  show (match m[q]? with | some j => V.ref j | none => .bad) = _
  rw [idx0 h1]
theorem unVs_ren {m : List Nat} : ∀ {vs vs' : List V}, unVs m vs = some vs' → vs'.map (V.ren m) = vs
  | [], _, h => by cases h; rfl
  | v :: r, _, h => by
    obtain ⟨v', h1, h2⟩ := Option.bind_eq_some_iff.mp h
    obtain ⟨r', h3, rfl⟩ := Option.map_eq_some_iff.mp h2
    rw [List.map_cons, unV_ren h1, unVs_ren h3]
theorem unEs_ren {m : List Nat} : ∀ {vs vs' : List (Str × V)}, unEs m vs = some vs' → vs'.map (fun e => (e.1, e.2.ren m)) = vs
  | [], _, h => by cases h; rfl
  | (x, v) :: r, _, h => by
    obtain ⟨v', h1, h2⟩ := Option.bind_eq_some_iff.mp h
    obtain ⟨r', h3, rfl⟩ := Option.map_eq_some_iff.mp h2
    rw [List.map_cons, unV_ren h1, unEs_ren h3]
theorem unCs_ren {m : List Nat} : ∀ {vs vs' : List (Str × Nat)}, unCs m vs = some vs' → renCells m vs' = some vs
  | [], _, h => by cases h; rfl
  | (x, v) :: r, _, h => by
    obtain ⟨v', h1, h2⟩ := Option.bind_eq_some_iff.mp h
    obtain ⟨r', h3, rfl⟩ := Option.map_eq_some_iff.mp h2
    exact renCells_c (idx0 h1) (unCs_ren h3)
theorem unD_ren {m : List Nat} {d d' : Option Nat} (h : unD m d = some d') : renDict m d' = some d := by
  induction d with
  | none => cases h; rfl
  | some i =>
    obtain ⟨q, h1, rfl⟩ := Option.map_eq_some_iff.mp h
    exact renDict_s (idx0 h1)
theorem unO_ren {m : List Nat} {o o' : AO} (h : unO m o = some o') : o'.ren m = o := by
  induction o with
  | lst vs => obtain ⟨q, h1, rfl⟩ := Option.map_eq_some_iff.mp h; rw [AO.ren_lst, unVs_ren h1]
  | tup vs => obtain ⟨q, h1, rfl⟩ := Option.map_eq_some_iff.mp h; rw [AO.ren_tup, unVs_ren h1]
  | ns vs => obtain ⟨q, h1, rfl⟩ := Option.map_eq_some_iff.mp h; rw [AO.ren_ns, unEs_ren h1]
  | cell v =>
    induction v with
    | none => cases h; rfl
    | some v => obtain ⟨q, h1, rfl⟩ := Option.map_eq_some_iff.mp h; rw [AO.ren_cell, Option.map_some, unV_ren h1]
  | inst C d => obtain ⟨q, h1, rfl⟩ := Option.map_eq_some_iff.mp h; exact AO.ren_inst (idx0 h1)
  | fn f =>
    obtain ⟨cs, h1, h2⟩ := Option.bind_eq_some_iff.mp h
    obtain ⟨d, h3, rfl⟩ := Option.map_eq_some_iff.mp h2
    exact AO.ren_fn (unCs_ren h1) (unD_ren h3)
  | flds c vs => obtain ⟨q, h1, rfl⟩ := Option.map_eq_some_iff.mp h; rw [AO.ren_flds, unVs_ren h1]
  | iter c vs => obtain ⟨q, h1, rfl⟩ := Option.map_eq_some_iff.mp h; rw [AO.ren_iter, unVs_ren h1]
  | enum own it i old =>
    obtain ⟨t, h1, h2⟩ := Option.bind_eq_some_iff.mp h
    obtain ⟨j, h3, h4⟩ := Option.bind_eq_some_iff.mp h2
    obtain ⟨v, h5, rfl⟩ := Option.map_eq_some_iff.mp h4
    rw [AO.ren_enum (unD_ren h1) (idx0 h3), unV_ren h5]
  | dict => cases h; rfl
  | junk => cases h; rfl
  | bad => cases h; rfl
theorem mem_el : ∀ {i : Nat} {l : List Nat}, mem i l = false → i ∉ l
  | _, [], _ => by simp
  | i, j :: r, h => by
    rw [mem_c] at h
    cases hb : Nat.beq i j with
    | true => rw [hb] at h; cases h
    | false =>
      rw [hb] at h
      exact List.not_mem_cons_of_ne_of_not_mem (Nat.ne_of_beq_eq_false hb) (mem_el h)
theorem ndB_el : ∀ {l : List Nat}, ndB l = true → l.Nodup
  | [], _ => .nil
  | a :: r, h => by
    rw [ndB_c] at h
    cases hb : mem a r with
    | true => rw [hb] at h; cases h
    | false =>
      rw [hb] at h
      exact List.nodup_cons.mpr ⟨mem_el hb, ndB_el h⟩
theorem unL_el {rw m : List Nat} {H' : List AO} : ∀ {js : List Nat} {k : List AO → Prop}, unL rw m H' js k → ∃ L, viewL m H' js L ∧ k L
  | [], _, h => ⟨[], trivial, h⟩
  | j :: r, k, h => by
    obtain ⟨o, e, h⟩ := getK_el h
    refine br2 h (fun _ h => ?_) fun h => ?_
    · obtain ⟨L, hv, q⟩ := unL_el (js := r) h.2
      exact ⟨o :: L, ⟨by rw [h.1]; exact e, hv⟩, q⟩
    · obtain ⟨o', e', h⟩ := optP_el h
      obtain ⟨L, hv, q⟩ := unL_el (js := r) h
      exact ⟨o' :: L, ⟨by rw [unO_ren e']; exact e, hv⟩, q⟩
theorem Tidy.by {N : Nat} {v : V} {H' : List AO} {Q : V → List AO → Prop} (m2 : List Nat) (rw : List Nat) (h : tdK rw N m2 v H' Q) : Tidy N Q v H' := by
  obtain ⟨e, h⟩ := gate_el h
  obtain ⟨v', e1, h⟩ := optP_el h
  obtain ⟨L, e2, h⟩ := unL_el h
  rw [upto_eq] at e e1 e2
  exact ⟨m2, L, v', .of (ndB_el e) e2, (unV_ren e1).symm, h⟩
theorem TidyS.by {N : Nat} {v : Fl} {H' : List AO} {Q : Fl → List AO → Prop} (m2 : List Nat) (rw : List Nat) (h : tdS rw N m2 v H' Q) : TidyS N Q v H' := by
  obtain ⟨e, h⟩ := gate_el h
  induction v with
  | ret v =>
    obtain ⟨v', e1, h⟩ := optP_el h
    obtain ⟨L, e2, h⟩ := unL_el h
    rw [upto_eq] at e e1 e2
    exact ⟨m2, L, .ret v', .of (ndB_el e) e2, by show _ = Fl.ret _; rw [unV_ren e1], h⟩
  | next =>
    obtain ⟨L, e2, h⟩ := unL_el h
    rw [upto_eq] at e e2
    exact ⟨m2, L, .next, .of (ndB_el e) e2, rfl, h⟩
  | brk =>
    obtain ⟨L, e2, h⟩ := unL_el h
    rw [upto_eq] at e e2
    exact ⟨m2, L, .brk, .of (ndB_el e) e2, rfl, h⟩
  | cont =>
    obtain ⟨L, e2, h⟩ := unL_el h
    rw [upto_eq] at e e2
    exact ⟨m2, L, .cont, .of (ndB_el e) e2, rfl, h⟩
theorem Fl.ren_rel {m : List Nat} (hm : Inr ρ m) {v : Fl} {x : Flow} (h : (v.ren m).Rel ρ x) : v.Rel (pk ρ m) x := by
  induction v with
  | ret v => obtain ⟨y, e, r⟩ := h; exact ⟨y, e, (V.ren_rel hm).mp r⟩
  | next => exact h
  | brk => exact h
  | cont => exact h
theorem Tri.tidyF {c : Sem Flow} {Q : Fl → List AO → Prop} (h : Tri W n ρ H c (Flw (TidyS H.length Q))) : Tri W n ρ H c (Flw Q) := fun A s r hs g =>
  wpAny_mono (h A s r hs g) (fun _ _ h => by
    obtain ⟨ρ', H', p, v, hv, m2, L, v', hw, rfl, q⟩ := h
    exact ⟨_, L, p.view hs.len hw, v', Fl.ren_rel (hw.inrho p.hs) hv, q⟩) fun _ _ e => e
theorem Exs.tidy {b : List Stmt} {Q : Fl → List AO → Prop} (h : Exs W n ae H b (TidyS H.length Q)) : Exs W n ae H b Q := fun ρ env E => .tidyF (h ρ env E)
end
/-! ### the global names -/
section
variable {W : Wd} {P : Params}
noncomputable def GlE (W : Wd) (x : Str) (v : V) : Prop := ∀ (n : Nat) (ae : AE) (H : List AO) (Q : V → List AO → Prop), ae.scope.kind = .function → ae.scope.names.lookup x = some .globalImplicit → Q v H → Ld W n ae H x Q
theorem lk_mem {α : Type} {x : Str} {v : α} : ∀ {l : List (Str × α)}, lk x l = some v → (x, v) ∈ l
  | [], h => by cases h
  | (y, u) :: r, h => by
    rw [lk_c] at h
    cases hb : Fast.sEq x y with
    | true => rw [hb] at h; cases h; rw [Fast.sEq_iff.mp hb]; exact .head _
    | false => rw [hb] at h; exact .tail _ (lk_mem h)
theorem GlE.ref (hB : Base W (glOf P)) {x : Str} {a : Addr} (hg : glOf P x = some (.ref a)) : GlE W x (.gref a) := fun _ _ _ _ hk hl q => Ld.gRef hB hk hl hg q
theorem GlE.bFn (hB : Base W (glOf P)) {x : Str} {s : String} (hg : glOf P x = none) (hy : bootBuiltins x = some (.builtin s)) (hx : x ≠ "__name__") : GlE W x (.bi s) := fun _ _ _ _ hk hl q => Ld.bFn hB hk hl hg hy hx q
theorem GlE.bTy (hB : Base W (glOf P)) {x : Str} {s : String} (hg : glOf P x = none) (hy : bootBuiltins x = some (.type s)) (hx : x ≠ "__name__") : GlE W x (.typ s) := fun _ _ _ _ hk hl q => Ld.bTy hB hk hl hg hy hx q
theorem GlE.int (hB : Base W (glOf P)) {x : Str} {i : Int} {t : Tok} (hg : glOf P x = some (.int i t)) : GlE W x (.int i) := fun _ _ _ _ hk hl q => Ld.gInt hB hk hl hg q
noncomputable def gtab : List (Str × V) := [(Str.ofString "_law_parts", V.gref 165), (Str.ofString "_law_step", V.gref 177), (Str.ofString "_law_negative", V.gref 170), (Str.ofString "_law_near", V.gref 184), (Str.ofString "_law_hue", V.gref 191), (Str.ofString "_law_way", V.gref 198), (Str.ofString "_law_measure", V.gref 205), (Str.ofString "_law_end", V.gref 212), (Str.ofString "int_divmod", V.gref 56), (Str.ofString "bisect_right", V.gref 74), (Str.ofString "bisect_left", V.gref 92), (Str.ofString "insort_right", V.gref 65), (Str.ofString "insort_left", V.gref 83),
  (Str.ofString "rgb_to_hls", V.gref 99), (Str.ofString "rgb_to_hsv", V.gref 106), (Str.ofString "_netrclex", V.gref 144), (Str.ofString "_law_stream", V.gref 155), (Str.ofString "_law_written", V.gref 160), (Str.ofString "_div2n1n", V.gref 21), (Str.ofString "_int2digits", V.gref 35), (Str.ofString "_digits2int", V.gref 42), (Str.ofString "_divmod_pos", V.gref 49), (Str.ofString "_DIV_LIMIT", V.int 4000),
  (Str.ofString "max", V.bi "max"), (Str.ofString "min", V.bi "min"), (Str.ofString "len", V.bi "len"), (Str.ofString "range", V.typ "range"), (Str.ofString "int", V.typ "int"), (Str.ofString "abs", V.bi "abs"), (Str.ofString "sum", V.bi "sum"), (Str.ofString "iter", V.bi "iter"), (Str.ofString "divmod", V.bi "divmod"), (Str.ofString "list", V.typ "list"), (Str.ofString "enumerate", V.typ "enumerate"), (Str.ofString "reversed", V.typ "reversed"), (Str.ofString "sorted", V.bi "sorted")]
theorem gtab_ok (hB : Base W (glOf P)) : GlOk W gtab := fun n ae H x v Q h hk hl q => by
  have key : ∀ e ∈ gtab, GlE W e.1 e.2 := by
    unfold gtab
    simp only [List.forall_mem_cons]
    exact ⟨.ref hB (g_law_parts P), .ref hB (g_law_step P), .ref hB (g_law_negative P), .ref hB (g_law_near P), .ref hB (g_law_hue P), .ref hB (g_law_way P), .ref hB (g_law_measure P), .ref hB (g_law_end P), .ref hB (g_int_divmod P), .ref hB (g_bisect_right P), .ref hB (g_bisect_left P), .ref hB (g_insort_right P), .ref hB (g_insort_left P),
      .ref hB (g_rgb_to_hls P), .ref hB (g_rgb_to_hsv P), .ref hB (g_netrclex P), .ref hB (g_law_stream P), .ref hB (g_law_written P), .ref hB (g_div2n1n P), .ref hB (g_int2digits P), .ref hB (g_digits2int P), .ref hB (g_divmod_pos P), .int hB (g_lim P),
      .bFn hB (g_max P) b_max (by decide +kernel), .bFn hB (g_min P) b_min (by decide +kernel), .bFn hB (g_len P) b_len (by decide +kernel), .bTy hB (g_range P) b_range (by decide +kernel), .bTy hB (g_int P) b_int (by decide +kernel), .bFn hB (g_abs P) b_abs (by decide +kernel), .bFn hB (g_sum P) b_sum (by decide +kernel), .bFn hB (g_iter P) b_iter (by decide +kernel), .bFn hB (g_divmod P) b_divmod (by decide +kernel), .bTy hB (g_list P) b_list (by decide +kernel), .bTy hB (g_enumerate P) b_enumerate (by decide +kernel), .bTy hB (g_reversed P) b_reversed (by decide +kernel), .bFn hB (g_sorted P) b_sorted (by decide +kernel), fun _ h => (nomatch h)⟩
  exact key (x, v) (lk_mem h) n ae H Q hk hl q
noncomputable def cx (hB : Base W (glOf P)) (n : Nat) : Cx := ⟨W, n, gtab, gtab_ok hB⟩
section
variable {n : Nat} {H : List AO} {ae : AE}
noncomputable section
noncomputable def finK (f : Fl) (H : List AO) (r : Rd) : Prop := r.fin f H
noncomputable def retK (v : V) (H : List AO) (r : Rd) : Prop := r.fin (.ret v) H
noncomputable def retF (Q : V → List AO → Prop) (f : Fl) (H : List AO) : Prop := match f with | .ret v => Q v H | _ => False
noncomputable def loopF (Q : Fl → List AO → Prop) (I : List AO → Prop) (f : Fl) (H : List AO) : Prop := match f with | .brk => Q .next H | .ret v => Q (.ret v) H | .next => I H | .cont => I H
noncomputable def rd (hB : Base W (glOf P)) (n : Nat) (ae : AE) (Q : Fl → List AO → Prop) : Rd := ⟨cx hB n, ae, [], Q⟩
end
noncomputable def lenG (H : List AO) (N : Nat) (A : Prop) : Prop := lenK H 0 fun m => gate (Nat.beq m N) A
theorem lenG_el {N : Nat} {A : Prop} (h : lenG H N A) : H.length = N ∧ A := by
  unfold lenG at h
  rw [lenK_eq, Nat.zero_add] at h
  exact ⟨Nat.eq_of_beq_eq_true (gate_el h).1, (gate_el h).2⟩
theorem Exs.go (hB : Base W (glOf P)) (f : Nat) {b : List Stmt} {Q : Fl → List AO → Prop} (h : wp f (.exs H b finK) (rd hB n ae Q)) : Exs W n ae H b Q := wp_el f h
theorem Ev.go (hB : Base W (glOf P)) (f : Nat) {e : Expr} {Q : V → List AO → Prop} (h : wp f (.ev H e retK) (rd hB n ae (retF Q))) : Ev W n ae H e Q := wp_el f h
theorem Binds.go {Q : List AO → Prop} : ∀ {bs : List (Str × V)} {H : List AO}, (List.rec (motive := fun _ => List AO → Prop) Q (fun b _ ih H => stP ae H b.1 b.2 ih) bs H) → Binds W n ae bs H Q
  | [], _, h => Binds.nil h
  | (x, v) :: r, H, h => Binds.cons (.mono (stP_el h) fun H1 h => Binds.go h)
/-- a turn of a loop -/
theorem For.go {t : Expr} {it : V} {b : List Stmt} {Q : Fl → List AO → Prop} (hB : Base W (glOf P)) (f : Nat) (h : nxtP (cx hB n) H it fun ov H1 => optE ov (Q .next H1) fun v => ownP (cx hB n) H1 t it v fun H2 => wp f (.asg H2 t v fun H3 r => wp f (.exs H3 b finK) r) (rd hB n ae (loopF Q fun H4 => Raw (For W n ae H4 t it b [] Q)))) :
    For W n ae H t it b [] Q := .turn (.mono (nxtP_el h) fun ov H1 h => by
    refine optE_e h (fun e h' => ?_) fun v e h' => ?_
    · subst e; exact Exs.nil h'
    · subst e
      refine .mono (ownP_el h') fun H2 h => Asg.mono (wp_el f h) fun H3 h => Exs.mono (wp_el f h) fun fl H4 h => ?_
      induction fl <;> first | exact h.out | exact h)
theorem Whl.go {t : Expr} {b : List Stmt} {Q : Fl → List AO → Prop} (hB : Base W (glOf P)) (f : Nat) (h : wp f (.evT H t fun q H1 r => brP q (wp f (.exs H1 b finK) r) (r.fin .brk H1)) (rd hB n ae (loopF Q fun H2 => Raw (Whl W n ae H2 t b [] Q)))) : Whl W n ae H t b [] Q := .turn (by
    refine EvT.mono (wp_el f h) fun q H1 h => ⟨fun e => ?_, fun e => Exs.nil ((brP_el h).2 e)⟩
    refine Exs.mono (wp_el f ((brP_el h).1 e)) fun fl H2 h => ?_
    induction fl <;> first | exact h.out | exact h)
theorem For.goN (N : Nat) {t : Expr} {it : V} {b : List Stmt} {Q : Fl → List AO → Prop} (hB : Base W (glOf P)) (f : Nat) (h : Nxt W n H it fun ov H1 => optE ov (Q .next H1) fun v => ownP (cx hB n) H1 t it v fun H2 => wp f (.asg H2 t v fun H3 r => lenG H3 N (wp f (.exs H3 b finK) r)) (rd hB n ae (TidyS N (loopF Q fun H4 => For W n ae H4 t it b [] Q)))) :
    For W n ae H t it b [] Q := .turn (.mono h fun ov H1 h => by
    refine optE_e h (fun e h' => ?_) fun v e h' => ?_
    · subst e; exact Exs.nil h'
    · subst e
      refine .mono (ownP_el h') fun H2 h => Asg.mono (wp_el f h) fun H3 h => ?_
      obtain ⟨eN, h⟩ := lenG_el h
      subst eN
      refine (Exs.tidy (wp_el f h)).mono fun fl H4 h => ?_
      induction fl <;> exact h)
/-- a loop by induction over a list of which its ledger is made -/
theorem For.indL {A B C D : Type} (S : List A → B → C → D → List AO) (ok : List A → B → C → D → Prop) {t : Expr} {it : V} {bd : List Stmt} {Q : Fl → List AO → Prop}
    (h0 : ∀ b c d, ok [] b c d → For W n ae (S [] b c d) t it bd [] Q) (h1 : ∀ a l b c d, ok (a :: l) b c d → (∀ b c d, ok l b c d → For W n ae (S l b c d) t it bd [] Q) → For W n ae (S (a :: l) b c d) t it bd [] Q) :
    ∀ l b c d, ok l b c d → H = S l b c d → For W n ae H t it bd [] Q := by
  have key : ∀ l b c d, ok l b c d → For W n ae (S l b c d) t it bd [] Q := fun l => List.rec (motive := fun l => ∀ b c d, ok l b c d → For W n ae (S l b c d) t it bd [] Q) h0 (fun a l ih b c d h => h1 a l b c d h ih) l
  exact fun l b c d h e => e ▸ key l b c d h
/-- a loop by what holds of the ledger; each turn makes less -/
theorem For.walk {X : Type} (N : Nat) (S : X → List AO) (μ : X → Nat) (ok : X → Prop) {t : Expr} {it : V} {b : List Stmt} {Q : Fl → List AO → Prop} (hB : Base W (glOf P)) (f : Nat)
    (h : ∀ x, ok x → Nxt W n (S x) it fun ov H1 => optE ov (Q .next H1) fun v => ownP (cx hB n) H1 t it v fun H2 => wp f (.asg H2 t v fun H3 r => lenG H3 N (wp f (.exs H3 b finK) r)) (rd hB n ae (TidyS N (loopF Q fun H4 => ∃ y, H4 = S y ∧ ok y ∧ μ y < μ x)))) :
    ∀ x, ok x → H = S x → For W n ae H t it b [] Q := by
  have key : ∀ i x, μ x = i → ok x → For W n ae (S x) t it b [] Q := fun i => Nat.strongRecOn i fun i ih x e hx => .turn ((h x hx).mono fun ov H1 h => by
    refine optE_e h (fun e h' => ?_) fun v e h' => ?_
    · subst e; exact Exs.nil h'
    · subst e
      refine .mono (ownP_el h') fun H2 h => Asg.mono (wp_el f h) fun H3 h => ?_
      obtain ⟨eN, h⟩ := lenG_el h
      subst eN
      refine (Exs.tidy (wp_el f h)).mono fun fl H4 h => ?_
      induction fl with
      | brk => exact h
      | ret v => exact h
      | next => obtain ⟨y, e1, e2, e3⟩ := h; subst e1; exact ih _ (by lia) y rfl e2
      | cont => obtain ⟨y, e1, e2, e3⟩ := h; subst e1; exact ih _ (by lia) y rfl e2)
  exact fun x hx e => e ▸ key _ x rfl hx
theorem Whl.walk {X : Type} (N : Nat) (S : X → List AO) (μ : X → Nat) (ok : X → Prop) {t : Expr} {b : List Stmt} {Q : Fl → List AO → Prop} (hB : Base W (glOf P)) (f : Nat)
    (h : ∀ x, ok x → wp f (.evT (S x) t fun q H1 r => brP q (lenG H1 N (wp f (.exs H1 b finK) r)) (Q .next H1)) (rd hB n ae (TidyS N (loopF Q fun H4 => ∃ y, H4 = S y ∧ ok y ∧ μ y < μ x)))) :
    ∀ x, ok x → H = S x → Whl W n ae H t b [] Q := by
  have key : ∀ i x, μ x = i → ok x → Whl W n ae (S x) t b [] Q := fun i => Nat.strongRecOn i fun i ih x e hx => .turn (EvT.mono (wp_el f (h x hx)) fun q H1 h => ⟨fun e => by
    obtain ⟨eN, h⟩ := lenG_el ((brP_el h).1 e)
    subst eN
    refine (Exs.tidy (wp_el f h)).mono fun fl H4 h => ?_
    induction fl with
    | brk => exact h
    | ret v => exact h
    | next => obtain ⟨y, e1, e2, e3⟩ := h; subst e1; exact ih _ (by lia) y rfl e2
    | cont => obtain ⟨y, e1, e2, e3⟩ := h; subst e1; exact ih _ (by lia) y rfl e2, fun e => Exs.nil ((brP_el h).2 e)⟩)
  exact fun x hx e => e ▸ key _ x rfl hx
end
end
end Mine

-- FILE Q1
open PySem PySem.W PyProof.Rows
set_option Elab.async false
set_option autoImplicit false
set_option maxRecDepth 100000
namespace Mine
section
variable {W : Wd} {P : Params} {n : Nat} {H : List AO}
theorem View.nil : View [] [] H := .of .nil trivial
/-- a callee that takes and gives no objects -/
theorem Cl.useV {f : V} {as kv : List V} {kn : List Str} {v0 : V} {Q : V → List AO → Prop} (h : Cl W n [] f as kn kv fun v L => v = v0 ∧ L = []) (ef : f.ren [] = f) (ea : as.map (V.ren []) = as) (ek : kv.map (V.ren []) = kv) (ev : ∀ m, v0.ren m = v0) (k : Q v0 H) : Cl W n H f as kn kv Q := by
  refine Cl.use [] [] .nil h ef ea ek ?_
  rw [ev]
  simpa [mrg_nil, mrg_cons] using k
theorem Cl.use1 {f : V} {as kv : List V} {kn : List Str} {o : AO} {Q : V → List AO → Prop} (h : Cl W n [] f as kn kv fun v L => v = .ref 0 ∧ L = [o]) (ef : f.ren [] = f) (ea : as.map (V.ren []) = as) (ek : kv.map (V.ren []) = kv) (eo : ∀ m, o.ren m = o) (k : newK H o Q) : Cl W n H f as kn kv Q := by
  refine Cl.use [] [] .nil h ef ea ek ?_
  rw [newK_eq] at k
  simp only [ext, mrg_nil, mrg_cons, List.map, eo]
  simpa [V.ren] using k
noncomputable def nearOk (p : UInt64) (u : Int) (sg : Bool) (m : Nat) (e : Int) : Prop := Float64.isInf (Float64.ofInt u) = false ∧ Float64.decode (Float64.add (Float64.mul (Float64.mul p (Float64.ofInt u)) (Float64.ofInt (2 ^ 20))) 4602678819172646912) = .fin sg m e
theorem c_near (w : Wo W P (glOf P)) {p : UInt64} {u : Int} {sg : Bool} {m : Nat} {e : Int} (h : nearOk p u sg m e) : Cl W (n + 1) [] (.gref 184) [.flt p, .int u] [] [] fun v L => v = .int (Float64.truncOf sg m e) ∧ L = [] := by
  obtain ⟨h1, h2⟩ := h
  refine Cl.tidy ?_
  refine Cl.fnN (cs := []) w.base (w.fn (ok184 P)) (Bnd.p2 (n1 := "part") (n2 := "unit") w.K (fun S x y => by kernel_rfl)) rfl rfl rfl rfl rfl rfl (Binds.go (Exs.go w.base 60 ?_))
  refine Gate.mk (by rw [h1]; rfl) (Gate.mk (by decide +kernel) ?_)
  refine finP.mk h2 ?_
  exact Tidy.by [] [] ⟨rfl, rfl⟩
theorem lt4 {p : Nat} (h : p < 4) : p = 0 ∨ p = 1 ∨ p = 2 ∨ p = 3 := by
  rcases p with _ | _ | _ | _ | p
  · exact .inl rfl
  · exact .inr (.inl rfl)
  · exact .inr (.inr (.inl rfl))
  · exact .inr (.inr (.inr rfl))
  · exact absurd h (Nat.not_lt.mpr (Nat.le_add_left 4 p))
theorem sg_index {p : Nat} (h : p < 4) : Builtin.Str.occurrences "a\"\\\n" ⟨#[sg p]⟩ 0 (Str.ofString "a\"\\\n").length 1 = [p] := by
  rcases lt4 h with rfl | rfl | rfl | rfl <;> decide +kernel
theorem sg_ascii (p : Nat) : sg p < 128 := by unfold sg; split <;> decide
theorem wd_ascii (p q r : Nat) : (wd p q r).cps.all (· < 128) = true := by simp [wd, sg_ascii]
theorem c_parts (w : Wo W P (glOf P)) {p q r : Nat} (hp : p < 4) (hq : q < 4) (hr : r < 4) : Cl W (n + 1) [] (.gref 165) [.str (wd p q r)] [] [] fun v L => v = .ref 0 ∧ L = [.lst [.int p, .int q, .int r]] := by
  refine Cl.tidy ?_
  refine Cl.fnN (cs := []) w.base (w.fn (ok165 P)) (Bnd.p1 (n1 := "word") w.K (fun S x => by kernel_rfl)) rfl rfl rfl rfl rfl rfl (Binds.go (Exs.go w.base 60 ?_))
  refine Gate.mk (wd_ascii p q r) ?_
  refine headP.mk (sg_index hp) ?_
  refine headP.mk (sg_index hq) ?_
  refine headP.mk (sg_index hr) ?_
  exact Tidy.by [2] [] ⟨rfl, rfl⟩
end
end Mine

-- FILE Q2
open PySem PySem.W PyProof.Rows
set_option Elab.async false
set_option autoImplicit false
set_option maxRecDepth 100000
namespace Mine
section
variable {W : Wd} {P : Params} {n : Nat} {H : List AO}
theorem Wo.call (w : Wo W P (glOf P)) {a : Addr} (h : fnOk P a = true) {as kv : List V} {kn : List Str} {Q : V → List AO → Prop} (k : Cl W n H (.gref a) as kn kv Q) : Raw (Kee W n H (.gref a) ∧ Cl W n H (.gref a) as kn kv Q) := ⟨.fn (w.fn h), k⟩
theorem u_near (w : Wo W P (glOf P)) {p : UInt64} {u : Int} {sg : Bool} {m : Nat} {e : Int} {Q : V → List AO → Prop} (h : nearOk p u sg m e) (k : Q (.int (Float64.truncOf sg m e)) H) : Cl W (n + 1) H (.gref 184) [.flt p, .int u] [] [] Q :=
  .useV (c_near w h) rfl rfl rfl (fun _ => rfl) k
theorem u_parts (w : Wo W P (glOf P)) {p q r : Nat} {Q : V → List AO → Prop} (hp : p < 4) (hq : q < 4) (hr : r < 4) (k : newK H (.lst [.int p, .int q, .int r]) Q) : Cl W (n + 1) H (.gref 165) [.str (wd p q r)] [] [] Q :=
  .use1 (c_parts w hp hq hr) rfl rfl rfl (fun _ => rfl) k
theorem c_step (w : Wo W P (glOf P)) {p q r : Nat} (hp : p < 4) (hq : q < 4) (hr : r < 4) : Cl W (n + 2) [] (.gref 177) [.str (wd p q r)] [] [] fun v L => v = .ref 0 ∧ L = [.lst [.int ((p : Int) - r), .int ((q : Int) - r)]] := by
  refine Cl.tidy ?_
  refine Cl.fnN (cs := []) w.base (w.fn (ok177 P)) (Bnd.p1 (n1 := "word") w.K (fun S x => by kernel_rfl)) rfl rfl rfl rfl rfl rfl (Binds.go (Exs.go w.base 60 ?_))
  refine w.call (ok165 P) (u_parts w hp hq hr ?_)
  exact Tidy.by [2] [] ⟨rfl, rfl⟩
theorem u_step (w : Wo W P (glOf P)) {p q r : Nat} {Q : V → List AO → Prop} (hp : p < 4) (hq : q < 4) (hr : r < 4) (k : newK H (.lst [.int ((p : Int) - r), .int ((q : Int) - r)]) Q) : Cl W (n + 2) H (.gref 177) [.str (wd p q r)] [] [] Q :=
  .use1 (c_step w hp hq hr) rfl rfl rfl (fun _ => rfl) k
theorem sg_neg {p : Nat} (h : p < 4) : fitsSsize ((3 : Int) - p) = true ∧ Txt.charAt "a\"\\\n" ((3 : Int) - p) = some (sg (3 - p)) := by
  rcases lt4 h with rfl | rfl | rfl | rfl <;> decide +kernel
theorem optP.mk {α : Type} {o : Option α} {a : α} {S : α → Prop} (e : o = some a) (h : S a) : optP o S := by subst e; exact h
theorem c_negative (w : Wo W P (glOf P)) {p q r : Nat} (hp : p < 4) (hq : q < 4) (hr : r < 4) : Cl W (n + 2) [] (.gref 170) [.str (wd p q r)] [] [] fun v L => v = .str (wd (3 - p) (3 - q) (3 - r)) ∧ L = [] := by
  refine Cl.tidy ?_
  refine Cl.fnN (cs := []) w.base (w.fn (ok170 P)) (Bnd.p1 (n1 := "word") w.K (fun S x => by kernel_rfl)) rfl rfl rfl rfl rfl rfl (Binds.go (Exs.go w.base 60 ?_))
  refine w.call (ok165 P) (u_parts w hp hq hr ?_)
  refine gate.mk (sg_neg hp).1 (optP.mk (sg_neg hp).2 ?_)
  refine gate.mk (sg_neg hq).1 (optP.mk (sg_neg hq).2 ?_)
  refine gate.mk (sg_neg hr).1 (optP.mk (sg_neg hr).2 ?_)
  refine Gate.mk rfl ?_
  exact Tidy.by [] [] ⟨rfl, rfl⟩
theorem u_negative (w : Wo W P (glOf P)) {p q r : Nat} {Q : V → List AO → Prop} (hp : p < 4) (hq : q < 4) (hr : r < 4) (k : Q (.str (wd (3 - p) (3 - q) (3 - r))) H) : Cl W (n + 2) H (.gref 170) [.str (wd p q r)] [] [] Q :=
  .useV (c_negative w hp hq hr) rfl rfl rfl (fun _ => rfl) k
/-- a callee that reads one object -/
theorem Cl.useR {f : V} {o : AO} {i : Nat} {v0 : V} {Q : V → List AO → Prop} (h : Cl W n [o] f [.ref 0] [] [] fun v L => v = v0 ∧ L = [o]) (hi : H[i]? = some o) (ef : ∀ m, f.ren m = f) (eo : ∀ m, o.ren m = o) (ev : ∀ m, v0.ren m = v0) (k : Q v0 H) : Cl W n H f [.ref i] [] [] Q := by
  refine Cl.use [i] [o] (.of (by simp) ⟨by rw [eo]; exact hi, trivial⟩) h (ef _) rfl rfl ?_
  rw [ev]
  have : H.set i o = H := by
    obtain ⟨hl, e⟩ := List.getElem?_eq_some_iff.mp hi
    rw [← e, List.set_getElem_self]
  simpa [mrg_nil, mrg_cons, eo, this] using k
noncomputable def way (x y : Int) : Int := if y = 0 then -99 else -x * (12 : Int).fdiv y
theorem fit_l {a b : Int} (h : Fits a) : (fitB a || fitB b) = true := by rw [fitB, decide_eq_true h.1, decide_eq_true h.2]; rfl
theorem fit_r {a b : Int} (h : Fits b) : (fitB a || fitB b) = true := by rw [Bool.or_comm]; exact fit_l h
theorem div_ok {b : Int} (h : b ≠ 0) (h2 : b.natAbs < 1073741824) : (b != 0 && decide (b.natAbs < 1073741824)) = true := by rw [decide_eq_true h2, Bool.and_true]; exact bne_iff_ne.mpr h
theorem c_way (w : Wo W P (glOf P)) {x y : Int} (hx : Fits x) (hy : y.natAbs < 1073741824) : Cl W (n + 1) [.lst [.int x, .int y]] (.gref 198) [.ref 0] [] [] fun v L => v = .int (way x y) ∧ L = [.lst [.int x, .int y]] := by
  refine Cl.tidy ?_
  refine Cl.fnN (cs := []) w.base (w.fn (ok198 P)) (Bnd.p1 (n1 := "step") w.K (fun S x => by kernel_rfl)) rfl rfl rfl rfl rfl rfl (Binds.go (Exs.go w.base 60 ?_))
  refine brP.mk (fun hz => ?_) (fun hz => ?_)
  · exact Tidy.by [] [] ⟨by rw [way, if_pos (by simpa using hz)], rfl⟩
  · have hz : y ≠ 0 := by simpa using hz
    refine gate.mk (div_ok hz hy) ?_
    refine Gate.mk (fit_l ⟨by have := hx.1; have := hx.2; lia, by have := hx.1; have := hx.2; lia⟩) ?_
    exact Tidy.by [] [] ⟨by rw [way, if_neg hz], rfl⟩
theorem u_way (w : Wo W P (glOf P)) {x y : Int} {i : Nat} {Q : V → List AO → Prop} (hx : Fits x) (hy : y.natAbs < 1073741824) (hi : H[i]? = some (.lst [.int x, .int y])) (k : Q (.int (way x y)) H) : Cl W (n + 1) H (.gref 198) [.ref i] [] [] Q :=
  .useR (c_way w hx hy) hi (fun _ => rfl) (fun _ => rfl) (fun _ => rfl) k
/-! ### rgb_to_hls, rgb_to_hsv -/
noncomputable def eqF (a b : UInt64) : Bool := Float64.cmp a b == some Ordering.eq
noncomputable def hueF (r g b mx rg : UInt64) : UInt64 :=
  let rc := Float64.div (Float64.sub mx r) rg
  let gc := Float64.div (Float64.sub mx g) rg
  let bc := Float64.div (Float64.sub mx b) rg
  let h := bif eqF r mx then Float64.sub bc gc else bif eqF g mx then Float64.sub (Float64.add 4611686018427387904 rc) bc else Float64.sub (Float64.add 4616189618054758400 gc) rc
  (Float64.divmod (Float64.div h 4618441417868443648) 4607182418800017408).2
noncomputable def hsv (r g b : UInt64) : UInt64 × UInt64 × UInt64 :=
  let mx := max3F r g b
  let mn := min3F r g b
  let rg := Float64.sub mx mn
  bif eqF mn mx then (0, 0, mx) else (hueF r g b mx rg, Float64.div rg mx, mx)
theorem nz {b : UInt64} (h : Float64.isZero b = false) : (!Float64.isZero b) = true := by rw [h]; rfl
theorem c_hsv (w : Wo W P (glOf P)) {r g b : UInt64} (h0 : eqF (min3F r g b) (max3F r g b) = false → Float64.isZero (max3F r g b) = false ∧ Float64.isZero (Float64.sub (max3F r g b) (min3F r g b)) = false) :
    Cl W (n + 1) [] (.gref 106) [.flt r, .flt g, .flt b] [] [] fun v L => v = .ref 0 ∧ L = [.tup [.flt (hsv r g b).1, .flt (hsv r g b).2.1, .flt (hsv r g b).2.2]] := by
  refine Cl.tidy ?_
  refine Cl.fnN (cs := []) w.base (w.fn (ok106 P)) (Bnd.p3 (n1 := "r") (n2 := "g") (n3 := "b") w.K (fun S x y z => by kernel_rfl)) rfl rfl rfl rfl rfl rfl (Binds.go (Exs.go w.base 60 ?_))
  refine brP.mk (fun hz => ?_) (fun hz => ?_)
  · have hz : eqF (min3F r g b) (max3F r g b) = true := hz
    exact Tidy.by [1] [] ⟨rfl, by simp only [hsv, hz, cond_true]⟩
  · have hz : eqF (min3F r g b) (max3F r g b) = false := hz
    obtain ⟨h1, h2⟩ := h0 hz
    refine Gate.mk (nz h1) (Gate.mk (nz h2) (Gate.mk (nz h2) (Gate.mk (nz h2) ?_)))
    refine brP.mk (fun hr => ?_) (fun hr => ?_)
    · have hr : eqF r (max3F r g b) = true := hr
      refine Gate.mk (by decide +kernel) (Gate.mk (by decide +kernel) ?_)
      exact Tidy.by [1] [] ⟨rfl, by simp only [hsv, hz, hueF, hr, cond_true, cond_false]⟩
    · have hr : eqF r (max3F r g b) = false := hr
      refine brP.mk (fun hg => ?_) (fun hg => ?_)
      · have hg : eqF g (max3F r g b) = true := hg
        refine Gate.mk (by decide +kernel) (Gate.mk (by decide +kernel) ?_)
        exact Tidy.by [1] [] ⟨rfl, by simp only [hsv, hz, hueF, hr, hg, cond_true, cond_false]⟩
      · have hg : eqF g (max3F r g b) = false := hg
        refine Gate.mk (by decide +kernel) (Gate.mk (by decide +kernel) ?_)
        exact Tidy.by [1] [] ⟨rfl, by simp only [hsv, hz, hueF, hr, hg, cond_false]⟩
end
end Mine

-- FILE Q3
open PySem PySem.W PyProof.Rows
set_option Elab.async false
set_option autoImplicit false
set_option maxRecDepth 100000
namespace Mine
section
variable {W : Wd} {P : Params} {n : Nat} {H : List AO}
noncomputable def leF (a b : UInt64) : Bool := Float64.cmp a b == some Ordering.lt || Float64.cmp a b == some Ordering.eq
noncomputable def hls (r g b : UInt64) : UInt64 × UInt64 × UInt64 :=
  let mx := max3F r g b
  let mn := min3F r g b
  let sm := Float64.add mx mn
  let rg := Float64.sub mx mn
  let l := Float64.div sm 4611686018427387904
  bif eqF mn mx then (0, l, 0) else (hueF r g b mx rg, l, bif leF l 4602678819172646912 then Float64.div rg sm else Float64.div rg (Float64.sub (Float64.sub 4611686018427387904 mx) mn))
noncomputable def hlsOk (r g b : UInt64) : Prop := eqF (min3F r g b) (max3F r g b) = false → Float64.isZero (Float64.add (max3F r g b) (min3F r g b)) = false ∧ Float64.isZero (Float64.sub (max3F r g b) (min3F r g b)) = false ∧
  (leF (Float64.div (Float64.add (max3F r g b) (min3F r g b)) 4611686018427387904) 4602678819172646912 = false → Float64.isZero (Float64.sub (Float64.sub 4611686018427387904 (max3F r g b)) (min3F r g b)) = false)
theorem c_hls (w : Wo W P (glOf P)) {r g b : UInt64} (h0 : hlsOk r g b) :
    Cl W (n + 1) [] (.gref 99) [.flt r, .flt g, .flt b] [] [] fun v L => v = .ref 0 ∧ L = [.tup [.flt (hls r g b).1, .flt (hls r g b).2.1, .flt (hls r g b).2.2]] := by
  refine Cl.tidy ?_
  refine Cl.fnN (cs := []) w.base (w.fn (ok99 P)) (Bnd.p3 (n1 := "r") (n2 := "g") (n3 := "b") w.K (fun S x y z => by kernel_rfl)) rfl rfl rfl rfl rfl rfl (Binds.go (Exs.go w.base 60 ?_))
  refine Gate.mk (by decide +kernel) ?_
  refine brP.mk (fun hz => ?_) (fun hz => ?_)
  · have hz : eqF (min3F r g b) (max3F r g b) = true := hz
    exact Tidy.by [1] [] ⟨rfl, by simp only [hls, hz, cond_true]⟩
  · have hz : eqF (min3F r g b) (max3F r g b) = false := hz
    obtain ⟨h1, h2, h3⟩ := h0 hz
    refine brP.mk (fun hl => ?_) (fun hl => ?_)
    · have hl : leF (Float64.div (Float64.add (max3F r g b) (min3F r g b)) 4611686018427387904) 4602678819172646912 = true := hl
      refine Gate.mk (nz h1) (Gate.mk (nz h2) (Gate.mk (nz h2) (Gate.mk (nz h2) ?_)))
      refine brP.mk (fun hr => ?_) (fun hr => ?_)
      · have hr : eqF r (max3F r g b) = true := hr
        refine Gate.mk (by decide +kernel) (Gate.mk (by decide +kernel) ?_)
        exact Tidy.by [1] [] ⟨rfl, by simp only [hls, hz, hueF, hl, hr, cond_true, cond_false]⟩
      · have hr : eqF r (max3F r g b) = false := hr
        refine brP.mk (fun hg => ?_) (fun hg => ?_)
        · have hg : eqF g (max3F r g b) = true := hg
          refine Gate.mk (by decide +kernel) (Gate.mk (by decide +kernel) ?_)
          exact Tidy.by [1] [] ⟨rfl, by simp only [hls, hz, hueF, hl, hr, hg, cond_true, cond_false]⟩
        · have hg : eqF g (max3F r g b) = false := hg
          refine Gate.mk (by decide +kernel) (Gate.mk (by decide +kernel) ?_)
          exact Tidy.by [1] [] ⟨rfl, by simp only [hls, hz, hueF, hl, hr, hg, cond_true, cond_false]⟩
    · have hl : leF (Float64.div (Float64.add (max3F r g b) (min3F r g b)) 4611686018427387904) 4602678819172646912 = false := hl
      refine Gate.mk (nz (h3 hl)) (Gate.mk (nz h2) (Gate.mk (nz h2) (Gate.mk (nz h2) ?_)))
      refine brP.mk (fun hr => ?_) (fun hr => ?_)
      · have hr : eqF r (max3F r g b) = true := hr
        refine Gate.mk (by decide +kernel) (Gate.mk (by decide +kernel) ?_)
        exact Tidy.by [1] [] ⟨rfl, by simp only [hls, hz, hueF, hl, hr, cond_true, cond_false]⟩
      · have hr : eqF r (max3F r g b) = false := hr
        refine brP.mk (fun hg => ?_) (fun hg => ?_)
        · have hg : eqF g (max3F r g b) = true := hg
          refine Gate.mk (by decide +kernel) (Gate.mk (by decide +kernel) ?_)
          exact Tidy.by [1] [] ⟨rfl, by simp only [hls, hz, hueF, hl, hr, hg, cond_true, cond_false]⟩
        · have hg : eqF g (max3F r g b) = false := hg
          refine Gate.mk (by decide +kernel) (Gate.mk (by decide +kernel) ?_)
          exact Tidy.by [1] [] ⟨rfl, by simp only [hls, hz, hueF, hl, hr, hg, cond_true, cond_false]⟩
noncomputable def fl (p : Nat) : UInt64 := fracF p 4
noncomputable def hue (p q r : Nat) : UInt64 := (hsv (fl p) (fl q) (fl r)).1
noncomputable def four : List Nat := [0, 1, 2, 3]
theorem four_mem {p : Nat} (h : p < 4) : p ∈ four := by
  rcases lt4 h with rfl | rfl | rfl | rfl <;> decide
theorem fl_fin {p : Nat} (h : p < 4) : Float64.isInf (fracF p 4) = false := by
  rcases lt4 h with rfl | rfl | rfl | rfl <;> decide +kernel
noncomputable def hls_dec (r g b : UInt64) : Decidable (hlsOk r g b) := by unfold hlsOk; infer_instance
theorem all64 {φ : Nat → Nat → Nat → Prop} [∀ p q r, Decidable (φ p q r)] (h : (four.all fun p => four.all fun q => four.all fun r => decide (φ p q r)) = true) {p q r : Nat} (hp : p < 4) (hq : q < 4) (hr : r < 4) : φ p q r := by
  have h1 := List.all_eq_true.mp h p (four_mem hp)
  have h2 := List.all_eq_true.mp h1 q (four_mem hq)
  exact of_decide_eq_true (List.all_eq_true.mp h2 r (four_mem hr))
theorem hls_ok {p q r : Nat} (hp : p < 4) (hq : q < 4) (hr : r < 4) : hlsOk (fl p) (fl q) (fl r) := @all64 (fun p q r => hlsOk (fl p) (fl q) (fl r)) (fun p q r => hls_dec (fl p) (fl q) (fl r)) (by decide +kernel) _ _ _ hp hq hr
theorem hsv_ok {p q r : Nat} (hp : p < 4) (hq : q < 4) (hr : r < 4) : eqF (min3F (fl p) (fl q) (fl r)) (max3F (fl p) (fl q) (fl r)) = false → Float64.isZero (max3F (fl p) (fl q) (fl r)) = false ∧ Float64.isZero (Float64.sub (max3F (fl p) (fl q) (fl r)) (min3F (fl p) (fl q) (fl r))) = false :=
  all64 (φ := fun p q r => eqF (min3F (fl p) (fl q) (fl r)) (max3F (fl p) (fl q) (fl r)) = false → Float64.isZero (max3F (fl p) (fl q) (fl r)) = false ∧ Float64.isZero (Float64.sub (max3F (fl p) (fl q) (fl r)) (min3F (fl p) (fl q) (fl r))) = false) (by decide +kernel) hp hq hr
theorem u_hsv (w : Wo W P (glOf P)) {p q r : Nat} {Q : V → List AO → Prop} (hp : p < 4) (hq : q < 4) (hr : r < 4)
    (k : newK H (.tup [.flt (hue p q r), .flt (hsv (fl p) (fl q) (fl r)).2.1, .flt (hsv (fl p) (fl q) (fl r)).2.2]) Q) : Cl W (n + 1) H (.gref 106) [.flt (fracF p 4), .flt (fracF q 4), .flt (fracF r 4)] [] [] Q :=
  .use1 (c_hsv w (hsv_ok hp hq hr)) rfl rfl rfl (fun _ => rfl) k
theorem u_hls (w : Wo W P (glOf P)) {p q r : Nat} {Q : V → List AO → Prop} (hp : p < 4) (hq : q < 4) (hr : r < 4)
    (k : newK H (.tup [.flt (hls (fl p) (fl q) (fl r)).1, .flt (hls (fl p) (fl q) (fl r)).2.1, .flt (hls (fl p) (fl q) (fl r)).2.2]) Q) : Cl W (n + 1) H (.gref 99) [.flt (fracF p 4), .flt (fracF q 4), .flt (fracF r 4)] [] [] Q :=
  .use1 (c_hls w (hls_ok hp hq hr)) rfl rfl rfl (fun _ => rfl) k
theorem c_hue (w : Wo W P (glOf P)) {p q r : Nat} (hp : p < 4) (hq : q < 4) (hr : r < 4) : Cl W (n + 2) [] (.gref 191) [.str (wd p q r)] [] [] fun v L => v = .flt (hue p q r) ∧ L = [] := by
  have ti : ∀ {p : Nat}, p < 4 → ((4 : Int) != 0 && !Float64.isInf (fracF p 4)) = true := fun h => by rw [fl_fin h]; rfl
  refine Cl.tidy ?_
  refine Cl.fnN (cs := []) w.base (w.fn (ok191 P)) (Bnd.p1 (n1 := "word") w.K (fun S x => by kernel_rfl)) rfl rfl rfl rfl rfl rfl (Binds.go (Exs.go w.base 60 ?_))
  refine w.call (ok165 P) (u_parts w hp hq hr ?_)
  refine Gate.mk (ti hp) (Gate.mk (ti hq) (Gate.mk (ti hr) ?_))
  refine w.call (ok106 P) (u_hsv w hp hq hr ?_)
  exact Tidy.by [] [] ⟨rfl, rfl⟩
theorem u_hue (w : Wo W P (glOf P)) {p q r : Nat} {Q : V → List AO → Prop} (hp : p < 4) (hq : q < 4) (hr : r < 4) (k : Q (.flt (hue p q r)) H) : Cl W (n + 2) H (.gref 191) [.str (wd p q r)] [] [] Q :=
  .useV (c_hue w hp hq hr) rfl rfl rfl (fun _ => rfl) k
theorem c_div2 (w : Wo W P (glOf P)) {a b m : Int} (ha : (Builtin.Int.intBits a : Int) - m ≤ 4000) (hb : b ≠ 0) (hp : Builtin.divisionGoesByPylong a b = false) : Cl W (n + 1) [] (.gref 21) [.int a, .int b, .int m] [] [] fun v L => v = .ref 0 ∧ L = [.tup [.int (a.fdiv b), .int (a.fmod b)]] := by
  refine Cl.tidy ?_
  refine Cl.fnN (cs := []) w.base (w.fn (ok21 P)) (Bnd.p3 (n1 := "a") (n2 := "b") (n3 := "n") w.K (fun S x y z => by kernel_rfl)) rfl rfl rfl rfl rfl rfl (Binds.go (Exs.go w.base 60 ?_))
  refine brP.mk (fun _ => ?_) (fun h => absurd ha (by simpa using h))
  refine gate.mk (by rw [hp, bne_iff_ne.mpr hb]; rfl) ?_
  exact Tidy.by [1] [] ⟨rfl, rfl⟩
theorem u_div2 (w : Wo W P (glOf P)) {a b m : Int} {Q : V → List AO → Prop} (ha : (Builtin.Int.intBits a : Int) - m ≤ 4000) (hb : b ≠ 0) (hp : Builtin.divisionGoesByPylong a b = false) (k : newK H (.tup [.int (a.fdiv b), .int (a.fmod b)]) Q) : Cl W (n + 1) H (.gref 21) [.int a, .int b, .int m] [] [] Q :=
  .use1 (c_div2 w ha hb hp) rfl rfl rfl (fun _ => rfl) k
end
end Mine

-- FILE Q4
open PySem PySem.W PyProof.Rows
set_option Elab.async false
set_option autoImplicit false
set_option maxRecDepth 100000
namespace Mine
section
variable {W : Wd} {P : Params} {n : Nat} {H : List AO}
noncomputable def I35 (P : Params) : AFn := fnIn P 35 1 [("n", 0), ("inner", 2), ("a_digits", 1)]
noncomputable def iL (P : Params) (m : Nat) (us : List Int) : List AO := [.cell (some (.int m)), .cell (some (.ref 3)), .cell (some (.ref 4)), .lst (us.map V.int), .fn (I35 P)]
noncomputable def place (m : Nat) : Nat → Nat → Nat → Nat → List Int → List Int
  | 0, _, _, _, us => us
  | d + 1, x, L, R, us => if L + 1 = R then us.set L x else
    let mid := (L + R) / 2
    let s := (mid - L) * m
    place m d (x / 2 ^ s) mid R (place m d (x % 2 ^ s) L mid us)
theorem place_c {m d x L R : Nat} {us : List Int} : place m (d + 1) x L R us = if L + 1 = R then us.set L x else place m d (x / 2 ^ (((L + R) / 2 - L) * m)) ((L + R) / 2) R (place m d (x % 2 ^ (((L + R) / 2 - L) * m)) L ((L + R) / 2) us) := rfl
theorem place_z {m x L R : Nat} {us : List Int} : place m 0 x L R us = us := rfl
theorem place_len {m : Nat} : ∀ {d x L R : Nat} {us : List Int}, (place m d x L R us).length = us.length
  | 0, _, _, _, _ => rfl
  | d + 1, x, L, R, us => by
    rw [place_c]
    split
    · simp
    · simp only [place_len]
theorem xorLow (x s : Nat) : Builtin.bitXor x ((x / 2 ^ s * 2 ^ s : Nat) : Int) = ((x % 2 ^ s : Nat) : Int) := by
  have e : x &&& (x / 2 ^ s * 2 ^ s) = x / 2 ^ s * 2 ^ s := by
    apply Nat.eq_of_testBit_eq
    intro i
    rw [Nat.testBit_and, Nat.testBit_mul_two_pow]
    by_cases h : s ≤ i
    · simp [h, Nat.testBit_div_two_pow, Nat.sub_add_cancel h]
    · simp [h]
  have e2 : Builtin.bitAnd x ((x / 2 ^ s * 2 ^ s : Nat) : Int) = ((x / 2 ^ s * 2 ^ s : Nat) : Int) := by
    unfold Builtin.bitAnd
    rw [decide_eq_true (Int.natCast_nonneg x), decide_eq_true (Int.natCast_nonneg _)]
    show ((x &&& (x / 2 ^ s * 2 ^ s) : Nat) : Int) = _
    rw [e]
  have e3 := Nat.div_add_mod x (2 ^ s)
  rw [Nat.mul_comm] at e3
  unfold Builtin.bitXor
  rw [bitOr_and, e2]
  lia
theorem ren_ints {m : List Nat} {us : List Int} : AO.ren m (.lst (us.map V.int)) = .lst (us.map V.int) := by
  rw [AO.ren_lst, List.map_map]; rfl
theorem iL_view {m : Nat} {us : List Int} {r : List AO} : viewL [0, 1, 2, 3, 4] (iL P m us ++ r) [0, 1, 2, 3, 4] (iL P m us) :=
  ⟨rfl, rfl, rfl, by show some _ = some (AO.ren _ (.lst (us.map V.int))); rw [ren_ints], rfl, trivial⟩
theorem u_inner {N m x L R : Nat} {us us' : List Int} {r : List AO} {Q : V → List AO → Prop} (h : Cl W N (iL P m us) (.ref 4) [.int x, .int L, .int R] [] [] fun v L' => v = .none ∧ L' = iL P m us') {H' : List AO} (hH : iL P m us' ++ r = H') (k : Q .none H') :
    Cl W N (iL P m us ++ r) (.ref 4) [.int x, .int L, .int R] [] [] Q := by
  refine Cl.use [0, 1, 2, 3, 4] (iL P m us) (.of (by decide) iL_view) h rfl rfl rfl ?_
  have e : mrg (ext [0, 1, 2, 3, 4] (iL P m us).length (iL P m us ++ r).length (iL P m us').length) [0, 1, 2, 3, 4] (iL P m us') (iL P m us ++ r) = iL P m us' ++ r := by
    have e1 : ext [0, 1, 2, 3, 4] (iL P m us).length (iL P m us ++ r).length (iL P m us').length = [0, 1, 2, 3, 4] := rfl
    rw [e1]
    show [_, _, _, AO.ren _ (.lst (us'.map V.int)), _] ++ r ++ List.map _ [] = _
    rw [ren_ints, List.map_nil, List.append_nil]
    rfl
  rw [e, hH]
  exact k
theorem Kee.ref {i : Nat} {f : AFn} (hi : H[i]? = some (.fn f)) : Kee W n H (.ref i) := .fn (.ref hi)
theorem Cl.args {f : V} {as as' kv : List V} {kn : List Str} {Q : V → List AO → Prop} (e : as = as') (h : Cl W n H f as' kn kv Q) : Cl W n H f as kn kv Q := e ▸ h
theorem two27 : (2 : Int) ^ 27 = 134217728 := by decide
theorem c_inner (w : Wo W P (glOf P)) {m : Nat} (hm : m < 64) : ∀ (d x L R : Nat) (us : List Int), L < R → R - L ≤ d → R ≤ us.length → us.length ≤ 1000 → x < 2 ^ 200 →
    Cl W (n + d) (iL P m us) (.ref 4) [.int x, .int L, .int R] [] [] fun v L' => v = .none ∧ L' = iL P m (place m d x L R us)
  | 0, x, L, R, us, h1, h2, h3, h4, h5 => by lia
  | d + 1, x, L, R, us, h1, h2, h3, h4, h5 => by
    obtain ⟨mid, hmid⟩ : ∃ mid, (L + R) / 2 = mid := ⟨_, rfl⟩
    obtain ⟨sh, hsh⟩ : ∃ sh, (mid - L) * m = sh := ⟨_, rfl⟩
    have e1 : ((L : Int) + R).fdiv (2 ^ (1 : Int).toNat) = (mid : Nat) := by
      rw [← hmid, Int.fdiv_eq_ediv_of_nonneg _ (by decide)]; rfl
    refine Cl.tidy ?_
    refine Cl.fnC w.base (.ref (f := I35 P) (by unfold iL; rfl)) (Bnd.p3 (n1 := "x") (n2 := "L") (n3 := "R") w.K (fun S x y z => by kernel_rfl)) rfl rfl rfl (cl := [("n", 0), ("inner", 2), ("a_digits", 1)]) rfl rfl rfl rfl (Binds.go (Exs.go w.base 60 ?_))
    refine brP.mk (fun hc => ?_) (fun hc => ?_)
    · have hc : L + 1 = R := by have := beq_iff_eq.mp hc; lia
      refine Raw.mk (Sit.ints rfl (by lia) (by lia) ?_)
      exact Tidy.by [] [3] ⟨ren_ints, rfl, by rw [place_c, if_pos hc]; rfl⟩
    · have hc : L + 1 ≠ R := by have := beq_eq_false_iff_ne.mp hc; lia
      have hl1 : L < mid := by lia
      have hl2 : mid < R := by lia
      have e2 : ((((L : Int) + R).fdiv (2 ^ (1 : Int).toNat)) - L) * m = (sh : Nat) := by
        rw [e1, ← hsh, ← Int.ofNat_sub (Nat.le_of_lt hl1), Int.natCast_mul]
      have hs1 : sh < 100000 := by
        have : (mid - L) * m ≤ 1000 * 64 := Nat.mul_le_mul (by lia) (by lia)
        lia
      have e3 : (x : Int).fdiv (2 ^ (((((L : Int) + R).fdiv (2 ^ (1 : Int).toNat)) - L) * m).toNat) = ((x / 2 ^ sh : Nat) : Int) := by
        rw [e2, Int.toNat_natCast, Int.fdiv_eq_ediv_of_nonneg _ (by exact_mod_cast Nat.zero_le _)]
        push_cast
        rfl
      have e4 : Builtin.bitXor x ((x : Int).fdiv (2 ^ (((((L : Int) + R).fdiv (2 ^ (1 : Int).toNat)) - L) * m).toNat) * 2 ^ (((((L : Int) + R).fdiv (2 ^ (1 : Int).toNat)) - L) * m).toNat) = ((x % 2 ^ sh : Nat) : Int) := by
        rw [e3, e2, Int.toNat_natCast, ← xorLow]
        push_cast
        rfl
      refine Gate.mk (fit_r ⟨by lia, by lia⟩) ?_
      refine gate.mk (by rw [e2]; exact decide_eq_true (by lia)) ?_
      refine gate.mk (by
        rw [e3, e2, two27]
        have : Builtin.Int.intBits ((x / 2 ^ sh : Nat) : Int) ≤ 200 := intBits_le (by rw [Int.natAbs_natCast]; exact Nat.lt_of_le_of_lt (Nat.div_le_self _ _) h5)
        rw [decide_eq_true (by lia), decide_eq_true (by lia)]; rfl) ?_
      refine Raw.mk ⟨Kee.ref rfl, Cl.args (as' := [.int ((x % 2 ^ sh : Nat) : Int), .int L, .int mid]) (by rw [← e4, ← e1]) ?_⟩
      refine u_inner (r := [_]) (c_inner w hm d (x % 2 ^ sh) L mid us hl1 (by lia) (by lia) h4 (Nat.lt_of_le_of_lt (Nat.mod_le _ _) h5)) rfl ?_
      have hz : (place m d (x % 2 ^ sh) L mid us).length = us.length := place_len ..
      refine Raw.mk ⟨Kee.ref rfl, Cl.args (as' := [.int ((x / 2 ^ sh : Nat) : Int), .int mid, .int R]) (by rw [← e3, ← e1]) ?_⟩
      refine u_inner (r := [_]) (c_inner w hm d (x / 2 ^ sh) mid R _ hl2 (by lia) (by lia) (by lia) (Nat.lt_of_le_of_lt (Nat.div_le_self _ _) h5)) rfl ?_
      exact Tidy.by [] [3] ⟨ren_ints, rfl, by rw [place_c, if_neg hc]; simp only [hmid, hsh]; rfl⟩
end
end Mine

-- FILE Q5
open PySem PySem.W PyProof.Rows
set_option Elab.async false
set_option autoImplicit false
set_option maxRecDepth 100000
namespace Mine
section
variable {W : Wd} {P : Params} {n : Nat} {H : List AO}
theorem Wo.coded (w : Wo W P (glOf P)) {c PP : Addr} {q : Str} (h : codeHdIn (hpK P) c PP = true) (hm : PP ∈ [207, 150, 37, 30, 214]) (hq : W.B.qn PP = q) : Coded W c PP q :=
  ⟨codeHd_of_K w.K h, by rw [w.tabs]; exact hm, hq⟩
theorem flat_zero {k : Nat} : (List.replicate k [V.int 0]).flatten = (List.replicate k (0 : Int)).map V.int := by
  induction k with
  | zero => rfl
  | succ k ih => simp [List.replicate_succ, ih]
theorem Cl.useH {f f' : V} {as kv as' kv' : List V} {kn : List Str} {v0 v1 : V} {L0 H1 : List AO} {Q' : V → List AO → Prop} (m : List Nat) (L : List AO) (hv : View m L H) (h : Cl W n L f as kn kv fun v L' => v = v0 ∧ L' = L0)
    (ef : f.ren m = f') (ea : as.map (V.ren m) = as') (ek : kv.map (V.ren m) = kv') (e0 : v0.ren (ext m L.length H.length L0.length) = v1) (e1 : mrg (ext m L.length H.length L0.length) m L0 H = H1) (k : Q' v1 H1) : Cl W n H f' as' kn kv' Q' := by
  subst e0 e1
  exact Cl.use m L hv h ef ea ek k
noncomputable def digs (a m : Nat) : List Int :=
  let k := (Builtin.Int.intBits a + m - 1) / m
  place m k a 0 k (List.replicate k 0)
theorem ren2 {a b : List Nat} {us : List Int} : AO.ren a (AO.ren b (.lst (us.map V.int))) = AO.ren b (.lst (us.map V.int)) := by rw [ren_ints, ren_ints]
theorem Bin.argR {op : Operator} {a b b' : V} {Q : V → List AO → Prop} (e : b = b') (h : Bin W n H op a b' Q) : Bin W n H op a b Q := e ▸ h
theorem Bin.mulK {l : Nat} {vs : List V} {k : Nat} {Q : V → List AO → Prop} (hl : H[l]? = some (.lst vs)) (hz : vs.length * k ≤ 1000000) (hk : k ≤ 1000000) (h : newK H (.lst (List.replicate k vs).flatten) Q) : Bin W n H .Mult (.ref l) (.int k) Q := by
  rw [newK_eq] at h
  exact Bin.mulL hl hz hk h
theorem c_i2d (w : Wo W P (glOf P)) {a m : Nat} (hm0 : 0 < m) (hm : m < 64) (ha : a < 2 ^ 100) : Cl W (n + 101) [] (.gref 35) [.int a, .int m] [] [] fun v L => v = .ref 0 ∧ L = [.lst ((digs a m).map V.int)] := by
  obtain ⟨k, hk⟩ : ∃ k, (Builtin.Int.intBits a + m - 1) / m = k := ⟨_, rfl⟩
  have e1 : ((Builtin.Int.intBits a : Int) + m - 1).fdiv m = (k : Nat) := by
    rw [Int.fdiv_eq_ediv_of_nonneg _ (by lia), ← hk]
    have : ((Builtin.Int.intBits a : Int) + m - 1) = ((Builtin.Int.intBits a + m - 1 : Nat) : Int) := by lia
    rw [this]; rfl
  have hb : Builtin.Int.intBits a ≤ 100 := intBits_le (by simpa using ha)
  have hk1 : k ≤ 100 := by
    rw [← hk]
    refine Nat.le_of_lt_succ ((Nat.div_lt_iff_lt_mul hm0).mpr ?_)
    lia
  refine Cl.tidy ?_
  refine Cl.fnC w.base (w.fn (ok35 P)) (Bnd.p2 (n1 := "a") (n2 := "n") w.K (fun S x y => by kernel_rfl)) rfl rfl rfl (cl := []) rfl rfl rfl rfl (Binds.go (Exs.go w.base 60 ?_))
  refine gate.mk (div_ok (by lia) (by lia)) ?_
  refine Raw.mk (Bin.argR (b' := .int (k : Nat)) (by rw [← e1]) (Bin.mulK rfl (by simp; lia) (by lia) ?_))
  rw [flat_zero]
  refine Raw.mk (Ex.def' (f := { I35 P with cells := [("n", 1), ("inner", 3), ("a_digits", 2)] }) w.base (w.coded (c := 34) (PP := 30) (by kernel_rfl) (by decide) (w.q30.trans (by kernel_rfl))) (by kernel_rfl) (fun _ => rfl) rfl (fun _ => rfl) rfl rfl rfl rfl rfl (stP_el ?_))
  refine brP.mk (fun hc => ?_) (fun hc => ?_)
  · have hc : a ≠ 0 := by simpa using hc
    have hz : ((List.replicate k (0 : Int)).map V.int).length = k := by simp
    refine gate.mk (by rw [hz]; exact decide_eq_true (by lia)) ?_
    refine Raw.mk ⟨Kee.ref rfl, Cl.args (as' := [.int a, .int (0 : Nat), .int k]) (by rw [hz]; rfl) ?_⟩
    refine Cl.useH (n := n + 100) [1, 2, 3, 5, 6] (iL P m (List.replicate k 0)) (.of (by decide) ?_) ((c_inner (n := n) w hm k a 0 k (List.replicate k 0) ?_ (by lia) (by simp) (by simp; lia) (Nat.lt_of_lt_of_le ha (by decide))).le (by lia)) rfl rfl rfl rfl rfl ?_
    · exact ⟨rfl, rfl, rfl, by show some _ = some (AO.ren _ (.lst ((List.replicate k (0 : Int)).map V.int))); rw [ren_ints], rfl, trivial⟩
    · have : Builtin.Int.intBits a ≠ 0 := fun e => hc (by have := intBits_le_iff.mp (Nat.le_of_eq e); lia)
      rw [← hk]
      refine (Nat.lt_div_iff_mul_lt hm0).mpr ?_
      lia
    refine Tidy.by [5] [5] ⟨?_, rfl, ?_⟩
    · exact ren2
    · rw [digs, hk]; exact congrArg (fun o => [o]) ren_ints
  · have hc : a = 0 := by simpa using hc
    have : k = 0 := by
      rw [← hk, hc]
      have : Builtin.Int.intBits (0 : Nat) = 0 := by decide
      rw [this]
      exact Nat.div_eq_of_lt (by lia)
    subst this
    refine Tidy.by [5] [5] ⟨ren_ints, rfl, ?_⟩
    rw [digs, hk]; rfl
end
end Mine

-- FILE Q6
open PySem PySem.W PyProof.Rows
set_option Elab.async false
set_option autoImplicit false
set_option maxRecDepth 100000
namespace Mine
theorem nthK.mk : ∀ {H : List V} {i : Nat} {v : V} {k : V → Prop}, H[i]? = some v → k v → nthK H i k
  | [], _, _, _, e, _ => by cases e
  | _ :: _, 0, _, _, e, h => by cases e; exact h
  | _ :: l, i + 1, v, k, e, h => nthK.mk (H := l) (i := i) (v := v) (k := k) e h
section
variable {W : Wd} {P : Params} {n : Nat} {H : List AO}
noncomputable def nats (us : List Nat) : List V := us.map fun (x : Nat) => V.int x
theorem map_ren_nats {m : List Nat} {us : List Nat} : (nats us).map (V.ren m) = nats us := by
  rw [nats, List.map_map]; rfl
theorem ren_nats {m : List Nat} {us : List Nat} : AO.ren m (.lst (nats us)) = .lst (nats us) := by
  rw [AO.ren_lst, map_ren_nats]
theorem nats_len {us : List Nat} : (nats us).length = us.length := by simp [nats]
theorem nats_get {us : List Nat} {k : Nat} (h : k < us.length) : (nats us)[k]? = some (V.int (us.getD k 0 : Nat)) := by
  simp [nats, List.getElem?_map, List.getElem?_eq_getElem h, List.getD]
noncomputable def I42 (P : Params) : AFn := fnIn P 42 0 [("n", 0), ("inner", 2), ("digits", 1)]
noncomputable def jL (P : Params) (m : Nat) (us : List Nat) : List AO := [.cell (some (.int m)), .cell (some (.ref 3)), .cell (some (.ref 4)), .lst (nats us), .fn (I42 P)]
noncomputable def gath (m : Nat) (us : List Nat) : Nat → Nat → Nat → Nat
  | 0, _, _ => 0
  | d + 1, L, R => if L + 1 = R then us.getD L 0 else
    let mid := (L + R) / 2
    gath m us d mid R * 2 ^ ((mid - L) * m) + gath m us d L mid
theorem gath_c {m d L R : Nat} {us : List Nat} : gath m us (d + 1) L R = if L + 1 = R then us.getD L 0 else gath m us d ((L + R) / 2) R * 2 ^ (((L + R) / 2 - L) * m) + gath m us d L ((L + R) / 2) := rfl
theorem gath_lt {m : Nat} {us : List Nat} (h : ∀ x ∈ us, x < 2 ^ m) : ∀ {d L R : Nat}, L < R → R - L ≤ d → gath m us d L R < 2 ^ ((R - L) * m)
  | 0, L, R, h1, h2 => by lia
  | d + 1, L, R, h1, h2 => by
    rw [gath_c]
    split
    · rename_i e
      have e1 : R - L = 1 := by lia
      rw [e1, Nat.one_mul]
      by_cases hl : L < us.length
      · rw [List.getD_eq_getElem?_getD, List.getElem?_eq_getElem hl]; exact h _ (List.getElem_mem hl)
      · rw [List.getD_eq_getElem?_getD, List.getElem?_eq_none (by lia)]; exact Nat.two_pow_pos m
    · obtain ⟨mid, hmid⟩ : ∃ mid, (L + R) / 2 = mid := ⟨_, rfl⟩
      simp only [hmid]
      have a1 := gath_lt h (d := d) (L := mid) (R := R) (by lia) (by lia)
      have a2 := gath_lt h (d := d) (L := L) (R := mid) (by lia) (by lia)
      have e2 : (R - L) * m = (R - mid) * m + (mid - L) * m := by rw [← Nat.add_mul]; congr 1; lia
      rw [e2, Nat.pow_add]
      calc gath m us d mid R * 2 ^ ((mid - L) * m) + gath m us d L mid < gath m us d mid R * 2 ^ ((mid - L) * m) + 2 ^ ((mid - L) * m) := Nat.add_lt_add_left a2 _
        _ = (gath m us d mid R + 1) * 2 ^ ((mid - L) * m) := (Nat.succ_mul _ _).symm
        _ ≤ _ := Nat.mul_le_mul_right _ a1
theorem jL_view {m : Nat} {us : List Nat} {r : List AO} : viewL [0, 1, 2, 3, 4] (jL P m us ++ r) [0, 1, 2, 3, 4] (jL P m us) :=
  ⟨rfl, rfl, rfl, by show some _ = some (AO.ren _ (.lst (nats us))); rw [ren_nats], rfl, trivial⟩
theorem u_jnner {N m L R k : Nat} {us : List Nat} {r : List AO} {Q : V → List AO → Prop} (h : Cl W N (jL P m us) (.ref 4) [.int L, .int R] [] [] fun v L' => v = .int k ∧ L' = jL P m us) {H' : List AO} (hH : jL P m us ++ r = H') (q : Q (.int k) H') :
    Cl W N (jL P m us ++ r) (.ref 4) [.int L, .int R] [] [] Q := by
  refine Cl.use [0, 1, 2, 3, 4] (jL P m us) (.of (by decide) jL_view) h rfl rfl rfl ?_
  have e : mrg (ext [0, 1, 2, 3, 4] (jL P m us).length (jL P m us ++ r).length (jL P m us).length) [0, 1, 2, 3, 4] (jL P m us) (jL P m us ++ r) = jL P m us ++ r := by
    have e1 : ext [0, 1, 2, 3, 4] (jL P m us).length (jL P m us ++ r).length (jL P m us).length = [0, 1, 2, 3, 4] := rfl
    rw [e1]
    show [_, _, _, AO.ren _ (.lst (nats us)), _] ++ r ++ List.map _ [] = _
    rw [ren_nats, List.map_nil, List.append_nil]
    rfl
  rw [e, hH]
  exact q
theorem shl_ok {a b c : Nat} (ha : a < 2 ^ c) (hb : c + b ≤ 134217728) : (decide ((0 : Int) ≤ (b : Nat)) && decide ((Builtin.Int.intBits ((a : Nat) : Int) : Int) + (b : Nat) ≤ 2 ^ 27)) = true := by
  have : Builtin.Int.intBits ((a : Nat) : Int) ≤ c := intBits_le (by simpa using ha)
  rw [two27, decide_eq_true (by lia), decide_eq_true (by lia)]; rfl
theorem c_jnner (w : Wo W P (glOf P)) {m : Nat} (hm : m < 64) {us : List Nat} (hu : ∀ x ∈ us, x < 2 ^ m) (h4 : us.length ≤ 1000) : ∀ (d L R : Nat), L < R → R - L ≤ d → R ≤ us.length →
    Cl W (n + d) (jL P m us) (.ref 4) [.int L, .int R] [] [] fun v L' => v = .int (gath m us d L R : Nat) ∧ L' = jL P m us
  | 0, L, R, h1, h2, h3 => by lia
  | d + 1, L, R, h1, h2, h3 => by
    obtain ⟨mid, hmid⟩ : ∃ mid, (L + R) / 2 = mid := ⟨_, rfl⟩
    obtain ⟨sh, hsh⟩ : ∃ sh, (mid - L) * m = sh := ⟨_, rfl⟩
    have e1 : ((L : Int) + R).fdiv (2 ^ (1 : Int).toNat) = (mid : Nat) := by
      rw [← hmid, Int.fdiv_eq_ediv_of_nonneg _ (by decide)]; rfl
    refine Cl.tidy ?_
    refine Cl.fnC w.base (.ref (f := I42 P) (by unfold jL; rfl)) (Bnd.p2 (n1 := "L") (n2 := "R") w.K (fun S x y => by kernel_rfl)) rfl rfl rfl (cl := [("n", 0), ("inner", 2), ("digits", 1)]) rfl rfl rfl rfl (Binds.go (Exs.go w.base 60 ?_))
    refine brP.mk (fun hc => ?_) (fun hc => ?_)
    · have hc : L + 1 = R := by have := beq_iff_eq.mp hc; lia
      refine nthK.mk (nats_get (by lia)) (gate.mk (decide_eq_true (by lia)) ?_)
      exact Tidy.by [] [3] ⟨ren_nats, by rw [gath_c, if_pos hc], rfl⟩
    · have hc : L + 1 ≠ R := by have := beq_eq_false_iff_ne.mp hc; lia
      have hl1 : L < mid := by lia
      have hl2 : mid < R := by lia
      have e2 : ((((L : Int) + R).fdiv (2 ^ (1 : Int).toNat)) - L) * m = (sh : Nat) := by
        rw [e1, ← hsh, ← Int.ofNat_sub (Nat.le_of_lt hl1), Int.natCast_mul]
      refine Gate.mk (fit_r ⟨by lia, by lia⟩) ?_
      refine Raw.mk ⟨Kee.ref rfl, Cl.args (as' := [.int mid, .int R]) (by rw [← e1]) ?_⟩
      refine u_jnner (r := [_]) (c_jnner w hm hu h4 d mid R hl2 (by lia) h3) rfl ?_
      refine gate.mk (by
        rw [e2]
        refine shl_ok (gath_lt hu hl2 (by lia)) ?_
        have : (R - mid) * m ≤ 1000 * 64 := Nat.mul_le_mul (by lia) (by lia)
        have : (mid - L) * m ≤ 1000 * 64 := Nat.mul_le_mul (by lia) (by lia)
        lia) ?_
      refine Raw.mk ⟨Kee.ref rfl, Cl.args (as' := [.int L, .int mid]) (by rw [← e1]) ?_⟩
      refine u_jnner (r := [_]) (c_jnner w hm hu h4 d L mid hl1 (by lia) (by lia)) rfl ?_
      refine Tidy.by [] [3] ⟨ren_nats, ?_, rfl⟩
      rw [gath_c, if_neg hc, e2]
      simp only [hmid, hsh, Int.toNat_natCast]
      push_cast
      rfl
theorem c_d2i (w : Wo W P (glOf P)) {m : Nat} (hm : m < 64) {us : List Nat} (hu : ∀ x ∈ us, x < 2 ^ m) (h4 : us.length ≤ 100) : Cl W (n + 101) [.lst (nats us)] (.gref 42) [.ref 0, .int m] [] [] fun v L => v = .int (gath m us us.length 0 us.length : Nat) ∧ L = [.lst (nats us)] := by
  refine Cl.tidy ?_
  refine Cl.fnC w.base (w.fn (ok42 P)) (Bnd.p2 (n1 := "digits") (n2 := "n") w.K (fun S x y => by kernel_rfl)) rfl rfl rfl (cl := []) rfl rfl rfl rfl (Binds.go (Exs.go w.base 60 ?_))
  refine Raw.mk (Ex.def' (f := { I42 P with cells := [("n", 3), ("inner", 4), ("digits", 2)] }) w.base (w.coded (c := 41) (PP := 37) (by kernel_rfl) (by decide) (w.q37.trans (by kernel_rfl))) (by kernel_rfl) (fun _ => rfl) rfl (fun _ => rfl) rfl rfl rfl rfl rfl (stP_el ?_))
  have hz : (nats us).length = us.length := nats_len
  refine gate.mk (by rw [hz]; exact decide_eq_true (by lia)) ?_
  refine brP.mk (fun hc => ?_) (fun hc => ?_)
  · have hc : us ≠ [] := by rintro rfl; exact absurd hc (by decide)
    refine gate.mk (by rw [hz]; exact decide_eq_true (by lia)) ?_
    refine Raw.mk ⟨Kee.ref rfl, Cl.args (as' := [.int (0 : Nat), .int us.length]) (by rw [hz]; rfl) ?_⟩
    refine Cl.useH (n := n + 100) [3, 2, 4, 0, 5] (jL P m us) (.of (by decide) ?_) ((c_jnner (n := n) w hm hu (by lia) us.length 0 us.length ?_ (by lia) (by lia)).le (by lia)) rfl rfl rfl rfl rfl ?_
    · exact ⟨rfl, rfl, rfl, by show some _ = some (AO.ren _ (.lst (nats us))); rw [ren_nats], rfl, trivial⟩
    · exact List.length_pos_iff.mpr hc
    exact Tidy.by [] [0] ⟨(congrArg (AO.ren _) ren_nats).trans (ren_nats.trans ren_nats.symm), rfl, congrArg (fun o => [o]) ren_nats⟩
  · have hc : us = [] := by
      induction us using List.casesOn with
      | nil => rfl
      | cons a b => exact absurd hc (by simp [nats])
    subst hc
    exact Tidy.by [] [] ⟨rfl, rfl⟩
end
end Mine

-- FILE Q7
open PySem PySem.W PyProof.Rows
set_option Elab.async false
set_option autoImplicit false
set_option maxRecDepth 100000
namespace Mine
/-! ### digits -/
noncomputable def dg (x m k : Nat) : List Nat := (List.range k).map fun i => x / 2 ^ (i * m) % 2 ^ m
theorem dg_get {x m k i : Nat} (h : i < k) : (dg x m k)[i]? = some (x / 2 ^ (i * m) % 2 ^ m) := by simp [dg, h]
theorem dg_len {x m k : Nat} : (dg x m k).length = k := by simp [dg]
theorem dg_lt {x m k : Nat} : ∀ y ∈ dg x m k, y < 2 ^ m := fun y hy => by
  obtain ⟨i, _, rfl⟩ := List.mem_map.mp hy
  exact Nat.mod_lt _ (Nat.two_pow_pos m)
theorem pow_split {m L M R : Nat} (h1 : L ≤ M) (h2 : M ≤ R) : 2 ^ ((R - L) * m) = 2 ^ ((M - L) * m) * 2 ^ ((R - M) * m) := by
  rw [← Nat.pow_add, ← Nat.add_mul]; congr 2; lia
theorem div_split {x m L M : Nat} (h1 : L ≤ M) : x / 2 ^ (L * m) / 2 ^ ((M - L) * m) = x / 2 ^ (M * m) := by
  rw [Nat.div_div_eq_div_mul, ← Nat.pow_add, ← Nat.add_mul]; congr 3; lia
theorem gath_dg {x m k : Nat} : ∀ {d L R : Nat}, L < R → R - L ≤ d → R ≤ k → gath m (dg x m k) d L R = x / 2 ^ (L * m) % 2 ^ ((R - L) * m)
  | 0, L, R, h1, h2, _ => by lia
  | d + 1, L, R, h1, h2, h3 => by
    rw [gath_c]
    split
    · rename_i e
      have e1 : R - L = 1 := by lia
      rw [e1, Nat.one_mul, List.getD_eq_getElem?_getD, dg_get (by lia)]; rfl
    · obtain ⟨mid, hmid⟩ : ∃ mid, (L + R) / 2 = mid := ⟨_, rfl⟩
      simp only [hmid]
      rw [gath_dg (d := d) (L := mid) (R := R) (by lia) (by lia) h3, gath_dg (d := d) (L := L) (R := mid) (by lia) (by lia) (by lia),
        pow_split (L := L) (M := mid) (R := R) (by lia) (by lia), Nat.mod_mul, div_split (by lia), Nat.mul_comm, Nat.add_comm]
theorem gath_all {x m k : Nat} (h : x < 2 ^ (k * m)) : gath m (dg x m k) k 0 k = x := by
  induction k using Nat.casesAuxOn with
  | zero =>
    rw [Nat.zero_mul] at h
    have : x = 0 := by simpa using h
    rw [this]; rfl
  | succ k =>
    rw [gath_dg (by lia) (by lia) (by lia), Nat.zero_mul, Nat.pow_zero, Nat.div_one, Nat.sub_zero, Nat.mod_eq_of_lt h]
theorem place_get {m : Nat} : ∀ {d x L R : Nat} {us : List Int}, L < R → R - L ≤ d → R ≤ us.length → x < 2 ^ ((R - L) * m) → ∀ i, (place m d x L R us)[i]? = if L ≤ i ∧ i < R then some ((x / 2 ^ ((i - L) * m) % 2 ^ m : Nat) : Int) else us[i]?
  | 0, x, L, R, us, h1, h2, _, _, i => by lia
  | d + 1, x, L, R, us, h1, h2, h3, h4, i => by
    rw [place_c]
    by_cases hc : L + 1 = R
    · rw [if_pos hc]
      have e1 : R - L = 1 := by lia
      rw [e1, Nat.one_mul] at h4
      by_cases hi : L ≤ i ∧ i < R
      · have : i = L := by lia
        subst this
        rw [if_pos hi, List.getElem?_set_self (by lia), Nat.sub_self, Nat.zero_mul, Nat.pow_zero, Nat.div_one, Nat.mod_eq_of_lt h4]
      · rw [if_neg hi, List.getElem?_set_ne (by lia)]
    · rw [if_neg hc]
      obtain ⟨mid, hmid⟩ : ∃ mid, (L + R) / 2 = mid := ⟨_, rfl⟩
      simp only [hmid]
      have hx : x / 2 ^ ((mid - L) * m) < 2 ^ ((R - mid) * m) := by
        rw [Nat.div_lt_iff_lt_mul (Nat.two_pow_pos _), Nat.mul_comm, ← pow_split (by lia) (by lia)]
        exact h4
      rw [place_get (d := d) (by lia) (by lia) (by rw [place_len]; lia) hx, place_get (d := d) (by lia) (by lia) (by lia) (Nat.mod_lt _ (Nat.two_pow_pos _))]
      by_cases a1 : mid ≤ i ∧ i < R
      · rw [if_pos a1, if_pos (by lia)]
        congr 3
        rw [Nat.div_div_eq_div_mul, ← Nat.pow_add, ← Nat.add_mul]
        congr 3; lia
      · rw [if_neg a1]
        by_cases a2 : L ≤ i ∧ i < mid
        · rw [if_pos a2, if_pos (by lia)]
          have e : (mid - L) * m = (i - L) * m + (m + (mid - i - 1) * m) := by
            have : m + (mid - i - 1) * m = (mid - i) * m := by
              rw [Nat.add_comm, ← Nat.succ_mul]; congr 1; lia
            rw [this, ← Nat.add_mul]; congr 1; lia
          rw [e, Nat.pow_add, Nat.mod_mul_right_div_self, Nat.pow_add, Nat.mod_mul_right_mod]
        · rw [if_neg a2, if_neg (by lia)]
noncomputable def kk (a m : Nat) : Nat := (Builtin.Int.intBits a + m - 1) / m
theorem lt_kk {a m : Nat} (hm : 0 < m) : a < 2 ^ (kk a m * m) := by
  have h1 : a < 2 ^ Builtin.Int.intBits a := by
    have := intBits_le_iff.mp (Nat.le_refl (Builtin.Int.intBits (a : Int)))
    simpa using this
  refine Nat.lt_of_lt_of_le h1 (Nat.pow_le_pow_right (by decide) ?_)
  unfold kk
  have := Nat.div_add_mod (Builtin.Int.intBits a + m - 1) m
  have h3 := Nat.mod_lt (Builtin.Int.intBits a + m - 1) hm
  rw [Nat.mul_comm] at this
  lia
theorem digs_eq {a m : Nat} (hm : 0 < m) : (digs a m).map V.int = nats (dg a m (kk a m)) := by
  have e : digs a m = (dg a m (kk a m)).map fun (x : Nat) => (x : Int) := by
    show place m (kk a m) a 0 (kk a m) (List.replicate (kk a m) 0) = _
    have hl := lt_kk (a := a) hm
    refine List.ext_getElem? fun i => ?_
    cases hk : kk a m with
    | zero => simp [place_z, dg]
    | succ k =>
      rw [hk] at hl
      rw [place_get (by lia) (by lia) (by simp) (by simpa using hl), List.getElem?_map]
      by_cases hi : i < k + 1
      · rw [if_pos (by lia), dg_get hi]; rfl
      · rw [if_neg (by lia)]
        simp [dg, hi]
  rw [e, nats, List.map_map]; rfl
noncomputable def down (x m : Nat) : Nat → List Nat
  | 0 => []
  | i + 1 => (x / 2 ^ (i * m) % 2 ^ m) :: down x m i
theorem down_z {x m : Nat} : down x m 0 = [] := rfl
theorem down_c {x m i : Nat} : down x m (i + 1) = (x / 2 ^ (i * m) % 2 ^ m) :: down x m i := rfl
theorem down_rev {x m : Nat} : ∀ {k : Nat}, (down x m k).reverse = dg x m k
  | 0 => rfl
  | k + 1 => by
    rw [down_c, List.reverse_cons, down_rev]
    simp [dg, List.range_succ]
theorem step_r {a b m i : Nat} : (a / 2 ^ ((i + 1) * m) % b * 2 ^ m + a / 2 ^ (i * m) % 2 ^ m) % b = a / 2 ^ (i * m) % b := by
  have e : a / 2 ^ (i * m) = a / 2 ^ ((i + 1) * m) * 2 ^ m + a / 2 ^ (i * m) % 2 ^ m := by
    have h := Nat.div_add_mod (a / 2 ^ (i * m)) (2 ^ m)
    have h2 : a / 2 ^ (i * m) / 2 ^ m = a / 2 ^ ((i + 1) * m) := by
      rw [Nat.div_div_eq_div_mul, ← Nat.pow_add, Nat.succ_mul]
    rw [h2, Nat.mul_comm] at h
    exact h.symm
  conv => rhs; rw [e]
  rw [Nat.add_mod, Nat.mul_mod, Nat.mod_mod, ← Nat.mul_mod, ← Nat.add_mod]
theorem step_q {a b m i : Nat} (hb : 0 < b) : (a / 2 ^ ((i + 1) * m) % b * 2 ^ m + a / 2 ^ (i * m) % 2 ^ m) / b = a / b / 2 ^ (i * m) % 2 ^ m := by
  have h := Nat.div_add_mod (a / 2 ^ (i * m)) (2 ^ m)
  have h2 : a / 2 ^ (i * m) / 2 ^ m = a / 2 ^ ((i + 1) * m) := by
    rw [Nat.div_div_eq_div_mul, ← Nat.pow_add, Nat.succ_mul]
  rw [h2] at h
  have h5 := Nat.mod_lt (a / 2 ^ (i * m)) (Nat.two_pow_pos m)
  have h6 := Nat.mod_lt (a / 2 ^ ((i + 1) * m)) hb
  have h7 := Nat.div_add_mod (a / 2 ^ ((i + 1) * m)) b
  have e3 : a / b / 2 ^ (i * m) = a / 2 ^ (i * m) / b := by
    rw [Nat.div_div_eq_div_mul, Nat.div_div_eq_div_mul, Nat.mul_comm]
  rw [e3]
  generalize a / 2 ^ (i * m) % 2 ^ m = D at *
  generalize a / 2 ^ (i * m) = A at *
  generalize a / 2 ^ ((i + 1) * m) % b = r at *
  generalize a / 2 ^ ((i + 1) * m) = A1 at *
  generalize A1 / b = q at *
  have e : A = b * (2 ^ m * q) + (r * 2 ^ m + D) := by
    rw [← h, ← h7, Nat.mul_add]
    have : 2 ^ m * (b * q) = b * (2 ^ m * q) := by rw [Nat.mul_left_comm]
    rw [this, Nat.mul_comm (2 ^ m) r]; lia
  have hlt : (r * 2 ^ m + D) / b < 2 ^ m := by
    rw [Nat.div_lt_iff_lt_mul hb]
    calc r * 2 ^ m + D < r * 2 ^ m + 2 ^ m := Nat.add_lt_add_left h5 _
      _ = (r + 1) * 2 ^ m := (Nat.succ_mul _ _).symm
      _ ≤ b * 2 ^ m := Nat.mul_le_mul_right _ h6
      _ = _ := Nat.mul_comm _ _
  rw [e, Nat.mul_add_div hb, Nat.mul_add_mod, Nat.mod_eq_of_lt hlt]
section
variable {W : Wd} {P : Params} {n : Nat} {H : List AO} {ae : AE}
theorem nats_dg {a m k i : Nat} (h : i < k) : (nats (dg a m k))[i]? = some (V.int (a / 2 ^ (i * m) % 2 ^ m : Nat)) := by
  simp [nats, dg_get h]
theorem nats_snoc {us : List Nat} {x : Nat} : nats us ++ [V.int x] = nats (us ++ [x]) := by simp [nats]
theorem nats_rev {us : List Nat} : (nats us).reverse = nats us.reverse := by simp [nats]
theorem down_len {x m : Nat} : ∀ {k : Nat}, (down x m k).length = k
  | 0 => rfl
  | k + 1 => by simp [down_c, down_len]
theorem u_i2d (w : Wo W P (glOf P)) {a m : Nat} {Q : V → List AO → Prop} (hm0 : 0 < m) (hm : m < 64) (ha : a < 2 ^ 100) (k : newK H (.lst (nats (dg a m (kk a m)))) Q) : Cl W (n + 101) H (.gref 35) [.int a, .int m] [] [] Q :=
  .use1 (by have h := c_i2d (n := n) w hm0 hm ha; rw [digs_eq hm0] at h; exact h) rfl rfl rfl (fun _ => ren_nats) k
theorem u_d2i (w : Wo W P (glOf P)) {m l : Nat} {us : List Nat} {Q : V → List AO → Prop} (hm : m < 64) (hu : ∀ x ∈ us, x < 2 ^ m) (h4 : us.length ≤ 100) (hl : H[l]? = some (.lst (nats us))) (k : Q (.int (gath m us us.length 0 us.length : Nat)) H) : Cl W (n + 101) H (.gref 42) [.ref l, .int m] [] [] Q := by
  refine Cl.use [l] [.lst (nats us)] (.of (by simp) ⟨by rw [ren_nats]; exact hl, trivial⟩) (c_d2i (n := n) w hm hu h4) rfl rfl rfl ?_
  have : H.set l (.lst (nats us)) = H := by
    obtain ⟨h, e⟩ := List.getElem?_eq_some_iff.mp hl
    rw [← e, List.set_getElem_self]
  simpa [mrg_nil, mrg_cons, ren_nats, this, V.ren_int] using k
end
end Mine

-- FILE Q8
open PySem PySem.W PyProof.Rows
set_option Elab.async false
set_option autoImplicit false
set_option maxRecDepth 100000
namespace Mine
section
variable {W : Wd} {P : Params} {n : Nat} {H : List AO}
theorem noPylong {x : Int} {b : Nat} (h : b < 2 ^ 60) : Builtin.divisionGoesByPylong x b = false := by
  unfold Builtin.divisionGoesByPylong
  have : ¬ ((if (b : Int) == 0 then 0 else (b : Int).natAbs.log2 / 30 + 1) > 300) := by
    split
    · lia
    · rename_i hb
      have hb : b ≠ 0 := by simpa using hb
      have : b.log2 < 60 := (Nat.log2_lt hb).mpr h
      rw [Int.natAbs_natCast]
      lia
  simp only [this, decide_false, Bool.false_and]
theorem c_dpos (w : Wo W P (glOf P)) {a b : Nat} (hb : 0 < b) (hb1 : b < 2 ^ 60) (ha : a < 2 ^ 100) : Cl W (n + 102) [] (.gref 49) [.int a, .int b] [] [] fun v L => v = .ref 0 ∧ L = [.tup [.int (a / b : Nat), .int (a % b : Nat)]] := by
  obtain ⟨m, hm⟩ : ∃ m, Builtin.Int.intBits b = m := ⟨_, rfl⟩
  have hm1 : m ≤ 60 := by rw [← hm]; exact intBits_le (by simpa using hb1)
  have hm2 : b < 2 ^ m := by have := intBits_le_iff.mp (Nat.le_of_eq hm); simpa using this
  have hm0 : 0 < m := by
    rcases Nat.eq_zero_or_pos m with e | e
    · rw [e] at hm2; lia
    · exact e
  obtain ⟨k, hk⟩ : ∃ k, kk a m = k := ⟨_, rfl⟩
  have hk1 : k ≤ 100 := by
    rw [← hk]
    have : Builtin.Int.intBits a ≤ 100 := intBits_le (by simpa using ha)
    refine Nat.le_of_lt_succ ((Nat.div_lt_iff_lt_mul hm0).mpr ?_)
    lia
  have hka : a < 2 ^ (k * m) := by rw [← hk]; exact lt_kk hm0
  refine Cl.tidy ?_
  refine Cl.fnC w.base (w.fn (ok49 P)) (Bnd.p2 (n1 := "a") (n2 := "b") w.K (fun S x y => by kernel_rfl)) rfl rfl rfl (cl := []) rfl rfl rfl rfl (Binds.go (Exs.go w.base 60 ?_))
  refine w.call (ok35 P) (Cl.args (as' := [.int a, .int m]) (by rw [← hm]) (u_i2d w hm0 (by lia) ha ?_))
  rw [hk, hm]
  refine Raw.mk (For.walk (n := n + 101) 4 (fun x : Nat × List (Str × V) × List Nat => [.ns (⟨"a", .int a⟩ :: ⟨"b", .int b⟩ :: ⟨"n", .int m⟩ :: ⟨"a_digits", .ref 1⟩ :: ⟨"r", .int (a / 2 ^ (x.1 * m) % b : Nat)⟩ :: ⟨"q_digits", .ref 2⟩ :: x.2.1), .lst (nats (dg a m k)), .lst (nats x.2.2), revIt 1 ((x.1 : Nat) - 1)]) (·.1)
    (fun x => (x.2.1 = [] ∨ ∃ y z : Int, x.2.1 = [⟨"a_digit", .int y⟩, ⟨"q_digit", .int z⟩]) ∧ x.1 ≤ k ∧ x.2.2 ++ down (a / b) m x.1 = down (a / b) m k) w.base 60 (fun ⟨i, tl, qs⟩ ⟨ht, hi, hq⟩ => ?_) (k, [], []) ⟨.inl rfl, Nat.le_refl _, rfl⟩ ?_)
  · dsimp only at ht hi hq ⊢
    induction i using Nat.casesAuxOn with
    | zero =>
      rw [down_z, List.append_nil] at hq
      rw [show (((0 : Nat) : Int) - 1) = -1 from rfl]
      refine Nxt.revEnd (l := 1) rfl ?_
      have hl : qs.length = k := by rw [hq, down_len]
      rw [show a / 2 ^ (0 * m) % b = a % b by rw [Nat.zero_mul, Nat.pow_zero, Nat.div_one]]
      rcases ht with rfl | ⟨x, y, rfl⟩
      all_goals
        refine gate.mk (decide_eq_true (by rw [nats_len]; lia)) ?_
        rw [nats_rev, hq, down_rev]
        refine w.call (ok42 P) (u_d2i (n := n) (us := dg (a / b) m k) w (by lia) dg_lt (by rw [dg_len]; exact hk1) rfl ?_)
        rw [dg_len, gath_all (Nat.lt_of_le_of_lt (Nat.div_le_self a b) hka)]
        exact Tidy.by [4] [] ⟨rfl, rfl⟩
    | succ i =>
      have e1 : (((i + 1 : Nat) : Int) - 1) = (i : Nat) := by lia
      rw [e1]
      refine Nxt.revItem (l := 1) (i := i) rfl rfl (nats_dg (by lia)) ?_
      have hl : qs.length + (i + 1) = k := by rw [← down_len (x := a / b) (m := m) (k := k), ← hq, List.length_append, down_len]
      have hr : a / 2 ^ ((i + 1) * m) % b < 2 ^ 60 := Nat.lt_trans (Nat.mod_lt _ hb) hb1
      have hd : a / 2 ^ (i * m) % 2 ^ m < 2 ^ m := Nat.mod_lt _ (Nat.two_pow_pos m)
      have hs := step_r (a := a) (b := b) (m := m) (i := i)
      have hsq := step_q (a := a) (b := b) (m := m) (i := i) hb
      obtain ⟨X, hX⟩ : ∃ X, a / 2 ^ ((i + 1) * m) % b * 2 ^ m + a / 2 ^ (i * m) % 2 ^ m = X := ⟨_, rfl⟩
      rw [hX] at hs hsq
      have hX1 : X < 2 ^ 200 := by
        have h1 : a / 2 ^ ((i + 1) * m) % b * 2 ^ m ≤ 2 ^ 60 * 2 ^ 60 := Nat.mul_le_mul (by lia) (Nat.pow_le_pow_right (by decide) hm1)
        have h2 : 2 ^ m ≤ 2 ^ 60 := Nat.pow_le_pow_right (by decide) hm1
        lia
      have hf1 : (X : Int).fdiv b = (X / b : Nat) := by rw [Int.fdiv_eq_ediv_of_nonneg _ (by lia)]; rfl
      have hf2 : (X : Int).fmod b = (X % b : Nat) := by rw [Int.fmod_eq_emod_of_nonneg _ (by lia)]; rfl
      have hXi : ((a / 2 ^ ((i + 1) * m) % b : Nat) : Int) * 2 ^ (m : Int).toNat + ((a / 2 ^ (i * m) % 2 ^ m : Nat) : Int) = (X : Nat) := by
        rw [← hX, Int.toNat_natCast]; push_cast; rfl
      rcases ht with rfl | ⟨x, y, rfl⟩
      all_goals
        refine gate.mk (shl_ok hr (by lia)) ?_
        refine w.call (ok21 P) (Cl.args (as' := [.int X, .int b, .int m]) (by rw [← hXi]) (u_div2 (n := n + 100) w ?_ (by lia) (noPylong hb1) ?_))
        · have : Builtin.Int.intBits X ≤ 200 := intBits_le (by simpa using hX1)
          lia
        rw [hf1, hf2, hs, hsq]
        refine gate.mk (decide_eq_true (by rw [nats_len]; lia)) ?_
        exact TidyS.by [] [1, 2] ⟨ren_nats, by rw [nats_snoc, ren_nats], (i, _, qs ++ [a / b / 2 ^ (i * m) % 2 ^ m]), by rw [nats_snoc]; rfl, ⟨.inr ⟨_, _, rfl⟩, by lia, by rw [List.append_assoc]; exact hq⟩, Nat.lt_succ_self i⟩
  · rw [nats_len, dg_len, Nat.div_eq_of_lt hka, Nat.zero_mod]
    rfl
end
end Mine

-- FILE Q9
open PySem PySem.W PyProof.Rows
set_option Elab.async false
set_option autoImplicit false
set_option maxRecDepth 100000
namespace Mine
theorem bitNot_eq (a : Int) : Builtin.bitNot a = -a - 1 := by unfold Builtin.bitNot; lia
theorem fdm_neg {a b : Int} (ha : a < 0) (hb : 0 < b) : a.fdiv b = -((-a - 1).fdiv b) - 1 ∧ a.fmod b = b + (-((-a - 1).fmod b) - 1) := by
  rw [Int.fdiv_eq_ediv_of_nonneg _ (by lia), Int.fdiv_eq_ediv_of_nonneg _ (by lia), Int.fmod_eq_emod_of_nonneg _ (by lia), Int.fmod_eq_emod_of_nonneg _ (by lia)]
  have h1 := Int.mul_ediv_add_emod (-a - 1) b
  have h2 := Int.emod_nonneg (-a - 1) (by lia : b ≠ 0)
  have h3 := Int.emod_lt_of_pos (-a - 1) hb
  refine (Int.ediv_emod_unique hb).mpr ⟨?_, by lia, by lia⟩
  rw [Int.mul_sub, Int.mul_neg]
  lia
section
variable {W : Wd} {P : Params} {n : Nat} {H : List AO}
theorem u_dpos (w : Wo W P (glOf P)) {a b : Nat} {Q : V → List AO → Prop} (hb : 0 < b) (hb1 : b < 2 ^ 60) (ha : a < 2 ^ 100) (k : newK H (.tup [.int (a / b : Nat), .int (a % b : Nat)]) Q) : Cl W (n + 102) H (.gref 49) [.int a, .int b] [] [] Q :=
  .use1 (c_dpos w hb hb1 ha) rfl rfl rfl (fun _ => rfl) k
theorem c_idmP (w : Wo W P (glOf P)) {a b : Int} (hb : 0 < b) (hb1 : b < 2 ^ 60) (ha0 : 0 ≤ a) (ha : a < 2 ^ 100) : Cl W (n + 103) [] (.gref 56) [.int a, .int b] [] [] fun v L => v = .ref 0 ∧ L = [.tup [.int (a.fdiv b), .int (a.fmod b)]] := by
  refine Cl.tidy ?_
  refine Cl.fnC w.base (w.fn (ok56 P)) (Bnd.p2 (n1 := "a") (n2 := "b") w.K (fun S x y => by kernel_rfl)) rfl rfl rfl (cl := []) rfl rfl rfl rfl (Binds.go (Exs.go w.base 60 ?_))
  refine brP.mk (fun hc => absurd (beq_iff_eq.mp hc) (by lia)) fun _ => ?_
  refine brP.mk (fun hc => absurd (of_decide_eq_true hc) (by lia)) fun _ => ?_
  refine brP.mk (fun hc => absurd (of_decide_eq_true hc) (by lia)) fun _ => ?_
  obtain ⟨x, rfl⟩ := Int.eq_ofNat_of_zero_le ha0
  obtain ⟨y, rfl⟩ := Int.eq_ofNat_of_zero_le (Int.le_of_lt hb)
  refine w.call (ok49 P) (u_dpos w (by lia) (by lia) (by lia) ?_)
  exact Tidy.by [1] [] ⟨rfl, by rw [Int.fdiv_eq_ediv_of_nonneg _ (by lia), Int.fmod_eq_emod_of_nonneg _ (by lia)]; rfl⟩
theorem c_idmN (w : Wo W P (glOf P)) {a b : Int} (hb : 0 < b) (hb1 : b < 2 ^ 60) (ha0 : a < 0) (ha : -a < 2 ^ 100) : Cl W (n + 104) [] (.gref 56) [.int a, .int b] [] [] fun v L => v = .ref 0 ∧ L = [.tup [.int (a.fdiv b), .int (a.fmod b)]] := by
  obtain ⟨e1, e2⟩ := fdm_neg ha0 hb
  refine Cl.tidy ?_
  refine Cl.fnC w.base (w.fn (ok56 P)) (Bnd.p2 (n1 := "a") (n2 := "b") w.K (fun S x y => by kernel_rfl)) rfl rfl rfl (cl := []) rfl rfl rfl rfl (Binds.go (Exs.go w.base 60 ?_))
  refine brP.mk (fun hc => absurd (beq_iff_eq.mp hc) (by lia)) fun _ => ?_
  refine brP.mk (fun hc => absurd (of_decide_eq_true hc) (by lia)) fun _ => ?_
  refine brP.mk (fun _ => ?_) fun hc => absurd ha0 (of_decide_eq_false hc)
  refine w.call (ok56 P) (Cl.args (as' := [.int (-a - 1), .int b]) (by rw [← bitNot_eq]) (.use1 (n := n + 103) (c_idmP w hb hb1 (by lia) (by lia)) rfl rfl rfl (fun _ => rfl) ?_))
  exact Tidy.by [2] [] ⟨rfl, by rw [bitNot_eq, bitNot_eq, e1, e2]⟩
theorem c_idmB (w : Wo W P (glOf P)) {a b : Int} (hb : b < 0) (hb1 : -b < 2 ^ 60) (ha : a.natAbs < 2 ^ 100) : Cl W (n + 105) [] (.gref 56) [.int a, .int b] [] [] fun v L => v = .ref 0 ∧ L = [.tup [.int (a.fdiv b), .int (a.fmod b)]] := by
  have e1 : (-a).fdiv (-b) = a.fdiv b := Int.neg_fdiv_neg ..
  have e2 : -((-a).fmod (-b)) = a.fmod b := by rw [Int.neg_fmod_neg, Int.neg_neg]
  refine Cl.tidy ?_
  refine Cl.fnC w.base (w.fn (ok56 P)) (Bnd.p2 (n1 := "a") (n2 := "b") w.K (fun S x y => by kernel_rfl)) rfl rfl rfl (cl := []) rfl rfl rfl rfl (Binds.go (Exs.go w.base 60 ?_))
  refine brP.mk (fun hc => absurd (beq_iff_eq.mp hc) (by omega)) fun _ => ?_
  refine brP.mk (fun _ => ?_) fun hc => absurd hb (of_decide_eq_false hc)
  refine w.call (ok56 P) (.use1 (n := n + 104) (o := .tup [.int ((-a).fdiv (-b)), .int ((-a).fmod (-b))]) ?_ rfl rfl rfl (fun _ => rfl) ?_)
  · by_cases h : 0 ≤ -a
    · exact (c_idmP (n := n + 1) w (by omega) (by omega) h (by omega))
    · exact (c_idmN (n := n) w (by omega) (by omega) (by omega) (by omega))
  exact Tidy.by [2] [] ⟨rfl, by rw [e1, e2]⟩
theorem u_idm (w : Wo W P (glOf P)) {a b : Int} {Q : V → List AO → Prop} (hb : b ≠ 0) (hb1 : b.natAbs < 2 ^ 60) (ha : a.natAbs < 2 ^ 100) (k : newK H (.tup [.int (a.fdiv b), .int (a.fmod b)]) Q) : Cl W (n + 105) H (.gref 56) [.int a, .int b] [] [] Q := by
  refine .use1 ?_ rfl rfl rfl (fun _ => rfl) k
  by_cases h : b < 0
  · exact c_idmB w h (by lia) ha
  · by_cases h2 : 0 ≤ a
    · exact c_idmP (n := n + 2) w (by lia) (by lia) h2 (by lia)
    · exact c_idmN (n := n + 1) w (by lia) (by lia) (by lia) (by lia)
end
noncomputable def meas : Nat → Int → Int → Int
  | 0, x, _ => x
  | f + 1, x, y => if y = 0 then x else meas f y (x.fmod y)
theorem meas_c {f : Nat} {x y : Int} : meas (f + 1) x y = if y = 0 then x else meas f y (x.fmod y) := rfl
theorem fmod_lt {a b : Int} (h : b ≠ 0) : (a.fmod b).natAbs < b.natAbs := by
  by_cases hb : 0 < b
  · rw [Int.fmod_eq_emod_of_nonneg _ (by lia)]
    have h2 := Int.emod_nonneg a h
    have h3 := Int.emod_lt_of_pos a hb
    lia
  · have e : a.fmod b = -((-a).fmod (-b)) := by rw [Int.neg_fmod_neg, Int.neg_neg]
    rw [e, Int.fmod_eq_emod_of_nonneg _ (by lia)]
    have h2 := Int.emod_nonneg (-a) (b := -b) (by lia)
    have h3 := Int.emod_lt_of_pos (-a) (b := -b) (by lia)
    lia
section
variable {W : Wd} {P : Params} {n : Nat} {H : List AO} {ae : AE}
theorem StL.two {a b : Str} {u v : V} {Q : List AO → Prop} (h : St W n ae H b v fun H1 => St W n ae H1 a u Q) : StL W n ae [a, b].reverse [u, v].reverse H Q := h
theorem c_measure (w : Wo W P (glOf P)) {x y : Int} {f : Nat} (hx : x.natAbs < 2 ^ 50) (hy : y.natAbs < 2 ^ 50) (hf : y.natAbs < f) : Cl W (n + 106) [.lst [.int x, .int y]] (.gref 205) [.ref 0] [] [] fun v L => v = .int (meas f x y) ∧ L = [.lst [.int x, .int y]] := by
  refine Cl.tidy ?_
  refine Cl.fnC w.base (w.fn (ok205 P)) (Bnd.p1 (n1 := "step") w.K (fun S x => by kernel_rfl)) rfl rfl rfl (cl := []) rfl rfl rfl rfl (Binds.go (Exs.go w.base 60 ?_))
  refine Raw.mk (Whl.walk (n := n + 105) 2 (fun z : Int × Int × Nat => [.lst [.int x, .int y], .ns [⟨"step", .ref 0⟩, ⟨"one", .int z.1⟩, ⟨"other", .int z.2.1⟩]]) (·.2.1.natAbs)
    (fun z => z.1.natAbs < 2 ^ 50 ∧ z.2.1.natAbs < 2 ^ 50 ∧ z.2.1.natAbs < z.2.2 ∧ meas z.2.2 z.1 z.2.1 = meas f x y) w.base 60 (fun ⟨a, b, g⟩ ⟨ha, hb, hg, hm⟩ => ?_) (x, y, f) ⟨hx, hy, hf, rfl⟩ rfl)
  dsimp only at ha hb hg hm ⊢
  refine brP.mk (fun hc => ?_) (fun hc => ?_)
  · have hc : b ≠ 0 := by simpa using hc
    refine Raw.mk ?_
    refine Ex.assignSwap (names := ["one", "other"]) (fun _ => rfl) (fun env e => by induction env; cases e; rfl) (Ev.go w.base 60 ?_)
    refine w.call (ok56 P) (u_idm w hc (by lia) (by lia) ?_)
    refine ⟨_, ⟨_, rfl, .inr rfl⟩, rfl, .two (St.mono (stP_el (Q := fun H1 => stP _ H1 _ _ _) ?_) fun H1 h => stP_el h)⟩
    have hl := fmod_lt (a := a) hc
    obtain ⟨g, rfl⟩ : ∃ k, g = k + 1 := ⟨g - 1, by lia⟩
    rw [meas_c, if_neg hc] at hm
    have hg : b.natAbs < g + 1 := hg
    have h1 : (a.fmod b).natAbs < 2 ^ 50 := Nat.lt_trans hl hb
    have h2 : (a.fmod b).natAbs < g := by lia
    exact TidyS.by [] [] ⟨(b, a.fmod b, g), rfl, ⟨hb, h1, h2, hm⟩, hl⟩
  · have hc : b = 0 := by simpa using hc
    obtain ⟨g, rfl⟩ : ∃ k, g = k + 1 := ⟨g - 1, by lia⟩
    rw [meas_c, if_pos hc] at hm
    exact Tidy.by [] [] ⟨by rw [hm], rfl⟩
theorem u_measure (w : Wo W P (glOf P)) {x y : Int} {i f : Nat} {Q : V → List AO → Prop} (hx : x.natAbs < 2 ^ 50) (hy : y.natAbs < 2 ^ 50) (hf : y.natAbs < f) (hi : H[i]? = some (.lst [.int x, .int y])) (k : Q (.int (meas f x y)) H) : Cl W (n + 106) H (.gref 205) [.ref i] [] [] Q :=
  .useR (c_measure w hx hy hf) hi (fun _ => rfl) (fun _ => rfl) (fun _ => rfl) k
end
end Mine

-- FILE Q10
open PySem PySem.W PyProof.Rows
set_option Elab.async false
set_option autoImplicit false
set_option maxRecDepth 100000
namespace Mine
noncomputable abbrev W3 := Nat × Nat × Nat
noncomputable def W3.str (w : W3) : Str := wd w.1 w.2.1 w.2.2
noncomputable def W3.ok (w : W3) : Prop := w.1 < 4 ∧ w.2.1 < 4 ∧ w.2.2 < 4
noncomputable def W3.hue (w : W3) : UInt64 := Mine.hue w.1 w.2.1 w.2.2
noncomputable def wds (ws : List W3) : List V := ws.map fun w => V.str w.str
theorem wds_len {ws : List W3} : (wds ws).length = ws.length := by simp [wds]
theorem map_ren_wds {m : List Nat} {ws : List W3} : (wds ws).map (V.ren m) = wds ws := by
  rw [wds, List.map_map]; rfl
theorem ren_wds {m : List Nat} {ws : List W3} : AO.ren m (.lst (wds ws)) = .lst (wds ws) := by
  rw [AO.ren_lst, map_ren_wds]
noncomputable def bisR (x : UInt64) (ks : List UInt64) : Nat → Nat → Nat → Nat
  | 0, lo, _ => lo
  | f + 1, lo, hi => if lo < hi then (if ltF x (ks.getD ((lo + hi) / 2) 0) then bisR x ks f lo ((lo + hi) / 2) else bisR x ks f ((lo + hi) / 2 + 1) hi) else lo
theorem bisR_c {x : UInt64} {ks : List UInt64} {f lo hi : Nat} : bisR x ks (f + 1) lo hi = if lo < hi then (if ltF x (ks.getD ((lo + hi) / 2) 0) then bisR x ks f lo ((lo + hi) / 2) else bisR x ks f ((lo + hi) / 2 + 1) hi) else lo := rfl
noncomputable def bisL (x : UInt64) (ks : List UInt64) : Nat → Nat → Nat → Nat
  | 0, lo, _ => lo
  | f + 1, lo, hi => if lo < hi then (if ltF (ks.getD ((lo + hi) / 2) 0) x then bisL x ks f ((lo + hi) / 2 + 1) hi else bisL x ks f lo ((lo + hi) / 2)) else lo
theorem bisL_c {x : UInt64} {ks : List UInt64} {f lo hi : Nat} : bisL x ks (f + 1) lo hi = if lo < hi then (if ltF (ks.getD ((lo + hi) / 2) 0) x then bisL x ks f ((lo + hi) / 2 + 1) hi else bisL x ks f lo ((lo + hi) / 2)) else lo := rfl
theorem bisR_le {x : UInt64} {ks : List UInt64} : ∀ {f lo hi : Nat}, lo ≤ hi → bisR x ks f lo hi ≤ hi
  | 0, lo, hi, h => h
  | f + 1, lo, hi, h => by
    rw [bisR_c]
    split
    · split
      · exact Nat.le_trans (bisR_le (by lia)) (by lia)
      · exact bisR_le (by lia)
    · exact h
theorem bisL_le {x : UInt64} {ks : List UInt64} : ∀ {f lo hi : Nat}, lo ≤ hi → bisL x ks f lo hi ≤ hi
  | 0, lo, hi, h => h
  | f + 1, lo, hi, h => by
    rw [bisL_c]
    split
    · split
      · exact bisL_le (by lia)
      · exact Nat.le_trans (bisL_le (by lia)) (by lia)
    · exact h
noncomputable def posR (ws : List W3) (w : W3) : Nat := bisR w.hue (ws.map W3.hue) (ws.length + 1) 0 ws.length
noncomputable def posL (ws : List W3) (w : W3) : Nat := bisL w.hue (ws.map W3.hue) (ws.length + 1) 0 ws.length
noncomputable def insAt (ws : List W3) (k : Nat) (w : W3) : List W3 := ws.take k ++ w :: ws.drop k
theorem wds_ins {ws : List W3} {k : Nat} {w : W3} : (wds ws).take k ++ V.str w.str :: (wds ws).drop k = wds (insAt ws k w) := by
  simp [wds, insAt]
section
variable {W : Wd} {P : Params} {n : Nat} {H : List AO} {ae : AE}
theorem Bnd.k4 {K : Frag} (X : K.In W.B.heap) {c : CInfo} {a b d e k : V} {n1 n2 n3 n4 n5 kw : Str} (h : ∀ S x y z w u, PySem.W.peek K S (bindArgs (fdc c) ⟨[x, y, z, w], [(kw, u)]⟩) = some [(n1, x), (n2, y), (n3, z), (n4, w), (n5, u)]) : Bnd W n H c [a, b, d, e] [kw] [k] [(n1, a), (n2, b), (n3, d), (n4, e), (n5, k)] := .peek X fun ρ xs ys hxs hys => by
  obtain ⟨x, y, z, w, rfl, hxs⟩ := hxs.ex4
  obtain ⟨u, rfl, hys⟩ := hys.ex1
  exact ⟨[(n1, x), (n2, y), (n3, z), (n4, w), (n5, u)], ⟨rfl, hxs.1, rfl, hxs.2.1, rfl, hxs.2.2.1, rfl, hxs.2.2.2.1, rfl, hys.1, trivial⟩, fun S => h S x y z w u⟩
theorem Bnd.k2 {K : Frag} (X : K.In W.B.heap) {c : CInfo} {a b k : V} {t : Tok} {n1 n2 n3 n4 n5 kw : Str} (h : ∀ S x y u, PySem.W.peek K S (bindArgs (fdc c) ⟨[x, y], [(kw, u)]⟩) = some [(n1, x), (n2, y), (n3, .int 0 t), (n4, .none), (n5, u)]) : Bnd W n H c [a, b] [kw] [k] [(n1, a), (n2, b), (n3, .int 0), (n4, .none), (n5, k)] := .peek X fun ρ xs ys hxs hys => by
  obtain ⟨x, y, rfl, hxs⟩ := hxs.ex2
  obtain ⟨u, rfl, hys⟩ := hys.ex1
  exact ⟨[(n1, x), (n2, y), (n3, .int 0 t), (n4, .none), (n5, u)], ⟨rfl, hxs.1, rfl, hxs.2.1, rfl, ⟨t, rfl⟩, rfl, rfl, rfl, hys.1, trivial⟩, fun S => h S x y u⟩
theorem wds_get {ws : List W3} {k : Nat} (h : k < ws.length) : (wds ws)[k]? = some (V.str (ws[k]).str) := by
  simp [wds, List.getElem?_map, List.getElem?_eq_getElem h]
theorem hue_get {ws : List W3} {k : Nat} (h : k < ws.length) : (ws.map W3.hue).getD k 0 = (ws[k]).hue := by
  simp [List.getD_eq_getElem?_getD, List.getElem?_eq_getElem h]
theorem Cl.use1R {f f' : V} {as kv as' kv' : List V} {kn : List Str} {v0 : V} {o o' : AO} {l : Nat} {Q : V → List AO → Prop} (h : Cl W n [o] f as kn kv fun v L => v = v0 ∧ L = [o']) (hi : H[l]? = some o) (ef : f.ren [l] = f') (ea : as.map (V.ren [l]) = as') (ek : kv.map (V.ren [l]) = kv')
    (eo : ∀ m, o.ren m = o) (eo' : ∀ m, o'.ren m = o') (ev : ∀ m, v0.ren m = v0) (k : Q v0 (H.set l o')) : Cl W n H f' as' kn kv' Q := by
  refine Cl.use [l] [o] (.of (by simp) ⟨by rw [eo]; exact hi, trivial⟩) h ef ea ek ?_
  rw [ev]
  simpa [mrg_nil, mrg_cons, eo'] using k
theorem same_set {o : AO} {l : Nat} (hi : H[l]? = some o) : H.set l o = H := by
  obtain ⟨h, e⟩ := List.getElem?_eq_some_iff.mp hi
  rw [← e, List.set_getElem_self]
structure Mid (lo hi f n mid : Nat) : Prop where
  e : (lo + hi) / 2 = mid
  i : ((lo : Int) + hi).fdiv 2 = (mid : Nat)
  lt : mid < n
  a : mid - lo < f
  b : mid - lo < hi - lo
  c : hi - (mid + 1) < f
  d : hi - (mid + 1) < hi - lo
theorem mid_of {lo hi f n : Nat} (hc : lo < hi) (hh : hi ≤ n) (hf : hi - lo < f + 1) : Mid lo hi f n ((lo + hi) / 2) :=
  have h1 : lo ≤ (lo + hi) / 2 := (Nat.le_div_iff_mul_le (by decide)).mpr (by rw [Nat.mul_two]; exact Nat.add_le_add_left (Nat.le_of_lt hc) lo)
  have h2 : (lo + hi) / 2 < hi := (Nat.div_lt_iff_lt_mul (by decide)).mpr (by rw [Nat.mul_two]; exact Nat.add_lt_add_right hc hi)
  have b : (lo + hi) / 2 - lo < hi - lo := Nat.sub_lt_sub_right h1 h2
  have d : hi - ((lo + hi) / 2 + 1) < hi - lo := Nat.sub_lt_sub_left hc (Nat.lt_succ_of_le h1)
  ⟨rfl, by rw [Int.fdiv_eq_ediv_of_nonneg _ (by decide)]; rfl, Nat.lt_of_lt_of_le h2 hh, Nat.lt_of_lt_of_le b (Nat.le_of_lt_succ hf), b, Nat.lt_of_lt_of_le d (Nat.le_of_lt_succ hf), d⟩
theorem pred_of {a f : Nat} (h : a < f) : f = f - 1 + 1 := (Nat.succ_pred_eq_of_pos (Nat.lt_of_le_of_lt (Nat.zero_le _) h)).symm
theorem c_bisR (w : Wo W P (glOf P)) {ws : List W3} {x : UInt64} (hw : ∀ w ∈ ws, w.ok) (hl : ws.length ≤ 100) : Cl W (n + 4) [.lst (wds ws)] (.gref 74) [.ref 0, .flt x, .int 0, .none] ["key"] [.gref 191] fun v L => v = .int (bisR x (ws.map W3.hue) (ws.length + 1) 0 ws.length : Nat) ∧ L = [.lst (wds ws)] := by
  refine Cl.tidy ?_
  refine Cl.fnC w.base (w.fn (ok74 P)) (Bnd.k4 (n1 := "a") (n2 := "x") (n3 := "lo") (n4 := "hi") (n5 := "key") w.K (fun S x y z w u => by kernel_rfl)) rfl rfl rfl (cl := []) rfl rfl rfl rfl (Binds.go (Exs.go w.base 60 ?_))
  refine gate.mk (decide_eq_true (by rw [wds_len]; lia)) ?_
  rw [wds_len]
  refine Raw.mk (Whl.walk (n := n + 3) 2 (fun z : Nat × Nat × Nat × List (Str × V) => [.lst (wds ws), .ns (⟨"a", .ref 0⟩ :: ⟨"x", .flt x⟩ :: ⟨"lo", .int z.1⟩ :: ⟨"hi", .int z.2.1⟩ :: ⟨"key", .gref 191⟩ :: z.2.2.2)]) (fun z => z.2.1 - z.1)
    (fun z => (z.2.2.2 = [] ∨ ∃ y : Int, z.2.2.2 = [⟨"mid", .int y⟩]) ∧ z.2.1 ≤ ws.length ∧ z.2.1 - z.1 < z.2.2.1 ∧ bisR x (ws.map W3.hue) z.2.2.1 z.1 z.2.1 = bisR x (ws.map W3.hue) (ws.length + 1) 0 ws.length) w.base 60 (fun ⟨lo, hi, f, tl⟩ ⟨ht, hh, hf, hb⟩ => ?_) (0, ws.length, ws.length + 1, []) ⟨.inl rfl, Nat.le_refl _, by dsimp only; lia, rfl⟩ rfl)
  dsimp only at ht hh hf hb ⊢
  obtain ⟨f, rfl⟩ : ∃ k, f = k + 1 := ⟨f - 1, pred_of hf⟩
  rw [bisR_c] at hb
  refine brP.mk (fun hc => ?_) (fun hc => ?_)
  · have hc : lo < hi := Int.ofNat_lt.mp (of_decide_eq_true hc)
    rw [if_pos hc] at hb
    obtain ⟨mid, M⟩ : ∃ mid, Mid lo hi f ws.length mid := ⟨_, mid_of hc hh hf⟩
    have hlt := M.lt
    rw [M.e, hue_get M.lt] at hb
    have hk := hw _ (List.getElem_mem M.lt)
    rcases ht with rfl | ⟨z, rfl⟩
    all_goals
      refine onNat.mk M.i (nthK.mk (wds_get M.lt) (gate.mk (decide_eq_true (Nat.lt_of_lt_of_le M.lt (Nat.le_trans hl (by decide)))) ?_))
      refine w.call (ok191 P) (u_hue w hk.1 hk.2.1 hk.2.2 ?_)
      refine brP.mk (fun hc => ?_) (fun hc => ?_)
      · have hc : ltF x (ws[mid]).hue = true := hc
        rw [if_pos hc] at hb
        exact TidyS.by [] [0] ⟨ren_wds, (lo, mid, f, _), by rw [M.i] <;> rfl, ⟨.inr ⟨mid, rfl⟩, Nat.le_of_lt M.lt, M.a, hb⟩, M.b⟩
      · have hc : ltF x (ws[mid]).hue = false := hc
        rw [if_neg (by rw [hc]; decide)] at hb
        exact TidyS.by [] [0] ⟨ren_wds, (mid + 1, hi, f, _), by rw [M.i] <;> rfl, ⟨.inr ⟨mid, rfl⟩, hh, M.c, hb⟩, M.d⟩
  · have hc : ¬ lo < hi := fun q => of_decide_eq_false hc (Int.ofNat_lt.mpr q)
    rw [if_neg hc] at hb
    rcases ht with rfl | ⟨z, rfl⟩
    all_goals
      exact Tidy.by [] [0] ⟨ren_wds, by rw [hb], rfl⟩
theorem c_bisL (w : Wo W P (glOf P)) {ws : List W3} {x : UInt64} (hw : ∀ w ∈ ws, w.ok) (hl : ws.length ≤ 100) : Cl W (n + 4) [.lst (wds ws)] (.gref 92) [.ref 0, .flt x, .int 0, .none] ["key"] [.gref 191] fun v L => v = .int (bisL x (ws.map W3.hue) (ws.length + 1) 0 ws.length : Nat) ∧ L = [.lst (wds ws)] := by
  refine Cl.tidy ?_
  refine Cl.fnC w.base (w.fn (ok92 P)) (Bnd.k4 (n1 := "a") (n2 := "x") (n3 := "lo") (n4 := "hi") (n5 := "key") w.K (fun S x y z w u => by kernel_rfl)) rfl rfl rfl (cl := []) rfl rfl rfl rfl (Binds.go (Exs.go w.base 60 ?_))
  refine gate.mk (decide_eq_true (by rw [wds_len]; lia)) ?_
  rw [wds_len]
  refine Raw.mk (Whl.walk (n := n + 3) 2 (fun z : Nat × Nat × Nat × List (Str × V) => [.lst (wds ws), .ns (⟨"a", .ref 0⟩ :: ⟨"x", .flt x⟩ :: ⟨"lo", .int z.1⟩ :: ⟨"hi", .int z.2.1⟩ :: ⟨"key", .gref 191⟩ :: z.2.2.2)]) (fun z => z.2.1 - z.1)
    (fun z => (z.2.2.2 = [] ∨ ∃ y : Int, z.2.2.2 = [⟨"mid", .int y⟩]) ∧ z.2.1 ≤ ws.length ∧ z.2.1 - z.1 < z.2.2.1 ∧ bisL x (ws.map W3.hue) z.2.2.1 z.1 z.2.1 = bisL x (ws.map W3.hue) (ws.length + 1) 0 ws.length) w.base 60 (fun ⟨lo, hi, f, tl⟩ ⟨ht, hh, hf, hb⟩ => ?_) (0, ws.length, ws.length + 1, []) ⟨.inl rfl, Nat.le_refl _, by dsimp only; lia, rfl⟩ rfl)
  dsimp only at ht hh hf hb ⊢
  obtain ⟨f, rfl⟩ : ∃ k, f = k + 1 := ⟨f - 1, pred_of hf⟩
  rw [bisL_c] at hb
  refine brP.mk (fun hc => ?_) (fun hc => ?_)
  · have hc : lo < hi := Int.ofNat_lt.mp (of_decide_eq_true hc)
    rw [if_pos hc] at hb
    obtain ⟨mid, M⟩ : ∃ mid, Mid lo hi f ws.length mid := ⟨_, mid_of hc hh hf⟩
    have hlt := M.lt
    rw [M.e, hue_get M.lt] at hb
    have hk := hw _ (List.getElem_mem M.lt)
    rcases ht with rfl | ⟨z, rfl⟩
    all_goals
      refine onNat.mk M.i (nthK.mk (wds_get M.lt) (gate.mk (decide_eq_true (Nat.lt_of_lt_of_le M.lt (Nat.le_trans hl (by decide)))) ?_))
      refine w.call (ok191 P) (u_hue w hk.1 hk.2.1 hk.2.2 ?_)
      refine brP.mk (fun hc => ?_) (fun hc => ?_)
      · have hc : ltF (ws[mid]).hue x = true := hc
        rw [if_pos hc] at hb
        exact TidyS.by [] [0] ⟨ren_wds, (mid + 1, hi, f, _), by rw [M.i] <;> rfl, ⟨.inr ⟨mid, rfl⟩, hh, M.c, hb⟩, M.d⟩
      · have hc : ltF (ws[mid]).hue x = false := hc
        rw [if_neg (by rw [hc]; decide)] at hb
        exact TidyS.by [] [0] ⟨ren_wds, (lo, mid, f, _), by rw [M.i] <;> rfl, ⟨.inr ⟨mid, rfl⟩, Nat.le_of_lt M.lt, M.a, hb⟩, M.b⟩
  · have hc : ¬ lo < hi := fun q => of_decide_eq_false hc (Int.ofNat_lt.mpr q)
    rw [if_neg hc] at hb
    rcases ht with rfl | ⟨z, rfl⟩
    all_goals
      exact Tidy.by [] [0] ⟨ren_wds, by rw [hb], rfl⟩
theorem u_bisR (w : Wo W P (glOf P)) {ws : List W3} {x : W3} {l : Nat} {Q : V → List AO → Prop} (hw : ∀ w ∈ ws, w.ok) (hl : ws.length ≤ 100) (hi : H[l]? = some (.lst (wds ws))) (k : Q (.int (posR ws x : Nat)) H) : Cl W (n + 4) H (.gref 74) [.ref l, .flt (Mine.hue x.1 x.2.1 x.2.2), .int 0, .none] ["key"] [.gref 191] Q := by
  refine .use1R (v0 := .int (posR ws x : Nat)) (o' := .lst (wds ws)) (c_bisR (n := n) w hw hl) hi rfl rfl rfl (fun _ => ren_wds) (fun _ => ren_wds) (fun _ => rfl) ?_
  rw [same_set hi]
  exact k
theorem u_bisL (w : Wo W P (glOf P)) {ws : List W3} {x : W3} {l : Nat} {Q : V → List AO → Prop} (hw : ∀ w ∈ ws, w.ok) (hl : ws.length ≤ 100) (hi : H[l]? = some (.lst (wds ws))) (k : Q (.int (posL ws x : Nat)) H) : Cl W (n + 4) H (.gref 92) [.ref l, .flt (Mine.hue x.1 x.2.1 x.2.2), .int 0, .none] ["key"] [.gref 191] Q := by
  refine .use1R (v0 := .int (posL ws x : Nat)) (o' := .lst (wds ws)) (c_bisL (n := n) w hw hl) hi rfl rfl rfl (fun _ => ren_wds) (fun _ => ren_wds) (fun _ => rfl) ?_
  rw [same_set hi]
  exact k
theorem Cl.insertK {l k : Nat} {vs : List V} {v : V} {Q : V → List AO → Prop} (hl : H[l]? = some (.lst vs)) (hz : vs.length ≤ 1000000) (hk : k ≤ vs.length) (h : Q .none (H.set l (.lst (vs.take k ++ v :: vs.drop k)))) : Cl W n H (.bi "list.insert") [.ref l, .int k, v] [] [] Q := Cl.insert hl hz hk h
theorem c_insR (w : Wo W P (glOf P)) {ws : List W3} {x : W3} (hx : x.ok) (hw : ∀ w ∈ ws, w.ok) (hl : ws.length ≤ 100) : Cl W (n + 5) [.lst (wds ws)] (.gref 65) [.ref 0, .str x.str] ["key"] [.gref 191] fun v L => v = .none ∧ L = [.lst (wds (insAt ws (posR ws x) x))] := by
  refine Cl.tidy ?_
  refine Cl.fnC w.base (w.fn (ok65 P)) (Bnd.k2 (t := 271) (n1 := "a") (n2 := "x") (n3 := "lo") (n4 := "hi") (n5 := "key") w.K (fun S x y u => by kernel_rfl)) rfl rfl rfl (cl := []) rfl rfl rfl rfl (Binds.go (Exs.go w.base 60 ?_))
  refine w.call (ok191 P) (u_hue (n := n + 2) w hx.1 hx.2.1 hx.2.2 ?_)
  refine w.call (ok74 P) (u_bisR (n := n) w hw hl rfl ?_)
  refine Raw.mk ?_
  refine Cl.insertK rfl (by rw [wds_len]; lia) (by rw [wds_len]; exact bisR_le (Nat.zero_le _)) ?_
  rw [wds_ins]
  exact Tidy.by [] [0] ⟨ren_wds, rfl, rfl⟩
theorem c_insL (w : Wo W P (glOf P)) {ws : List W3} {x : W3} (hx : x.ok) (hw : ∀ w ∈ ws, w.ok) (hl : ws.length ≤ 100) : Cl W (n + 5) [.lst (wds ws)] (.gref 83) [.ref 0, .str x.str] ["key"] [.gref 191] fun v L => v = .none ∧ L = [.lst (wds (insAt ws (posL ws x) x))] := by
  refine Cl.tidy ?_
  refine Cl.fnC w.base (w.fn (ok83 P)) (Bnd.k2 (t := 298) (n1 := "a") (n2 := "x") (n3 := "lo") (n4 := "hi") (n5 := "key") w.K (fun S x y u => by kernel_rfl)) rfl rfl rfl (cl := []) rfl rfl rfl rfl (Binds.go (Exs.go w.base 60 ?_))
  refine w.call (ok191 P) (u_hue (n := n + 2) w hx.1 hx.2.1 hx.2.2 ?_)
  refine w.call (ok92 P) (u_bisL (n := n) w hw hl rfl ?_)
  refine Raw.mk ?_
  refine Cl.insertK rfl (by rw [wds_len]; lia) (by rw [wds_len]; exact bisL_le (Nat.zero_le _)) ?_
  rw [wds_ins]
  exact Tidy.by [] [0] ⟨ren_wds, rfl, rfl⟩
theorem u_insR (w : Wo W P (glOf P)) {ws : List W3} {x : W3} {l : Nat} {Q : V → List AO → Prop} (hx : x.ok) (hw : ∀ w ∈ ws, w.ok) (hl : ws.length ≤ 100) (hi : H[l]? = some (.lst (wds ws))) (k : Q .none (H.set l (.lst (wds (insAt ws (posR ws x) x))))) : Cl W (n + 5) H (.gref 65) [.ref l, .str x.str] ["key"] [.gref 191] Q :=
  .use1R (c_insR (n := n) w hx hw hl) hi rfl rfl rfl (fun _ => ren_wds) (fun _ => ren_wds) (fun _ => rfl) k
theorem u_insL (w : Wo W P (glOf P)) {ws : List W3} {x : W3} {l : Nat} {Q : V → List AO → Prop} (hx : x.ok) (hw : ∀ w ∈ ws, w.ok) (hl : ws.length ≤ 100) (hi : H[l]? = some (.lst (wds ws))) (k : Q .none (H.set l (.lst (wds (insAt ws (posL ws x) x))))) : Cl W (n + 5) H (.gref 83) [.ref l, .str x.str] ["key"] [.gref 191] Q :=
  .use1R (c_insL (n := n) w hx hw hl) hi rfl rfl rfl (fun _ => ren_wds) (fun _ => ren_wds) (fun _ => rfl) k
end
end Mine

-- FILE Q11
open PySem PySem.W PyProof.Rows
set_option Elab.async false
set_option autoImplicit false
set_option maxRecDepth 100000
namespace Mine
noncomputable def escL (p : Nat) : List Nat := [92, sg p]
noncomputable def nL (p : Nat) : List Nat := if p = 0 ∨ p = 3 then [sg p] else escL p
noncomputable def wr (p q r : Nat) : Nat → List Nat
  | 0 => 34 :: (nL p ++ (nL q ++ (nL r ++ [34])))
  | 1 => escL p ++ (escL q ++ (escL r ++ [9]))
  | _ => 34 :: (escL p ++ (escL q ++ (escL r ++ [34, 13])))
noncomputable def wrS (p q r way : Nat) : Str := ⟨(wr p q r way).toArray⟩
theorem contains_sg {p : Nat} (h : p < 4) : Txt.contains (Str.ofString "a\n") ⟨#[sg p]⟩ = decide (p = 0 ∨ p = 3) := by
  rcases lt4 h with rfl | rfl | rfl | rfl <;> decide +kernel
theorem nL_t {p : Nat} (hp : p < 4) (h : Txt.contains (Str.ofString "a\n") ⟨#[sg p]⟩ = true) : nL p = [sg p] := by rw [contains_sg hp] at h; rw [nL, if_pos (of_decide_eq_true h)]
theorem nL_f {p : Nat} (hp : p < 4) (h : Txt.contains (Str.ofString "a\n") ⟨#[sg p]⟩ = false) : nL p = escL p := by rw [contains_sg hp] at h; rw [nL, if_neg (of_decide_eq_false h)]
section
variable {W : Wd} {P : Params} {n : Nat} {H : List AO} {ae : AE}
theorem c_written (w : Wo W P (glOf P)) {p q r way : Nat} (hp : p < 4) (hq : q < 4) (hr : r < 4) (hw : way < 3) : Cl W (n + 1) [] (.gref 160) [.str (wd p q r), .int way] [] [] fun v L => v = .str (wrS p q r way) ∧ L = [] := by
  have ha := wd_ascii p q r
  refine Cl.tidy ?_
  refine Cl.fnN (cs := []) w.base (w.fn (ok160 P)) (Bnd.p2 (n1 := "word") (n2 := "way") w.K (fun S x y => by kernel_rfl)) rfl rfl rfl rfl rfl rfl (Binds.go (Exs.go w.base 60 ?_))
  refine Gate.mk ha (Gate.mk (by kernel_rfl) (Gate.mk (by kernel_rfl) (Gate.mk (by kernel_rfl) (Gate.mk (by kernel_rfl) (Gate.mk ha ?_)))))
  refine brP.mk (fun h1 => ?_) (fun h1 => ?_)
  · refine brP.mk (fun h2 => ?_) (fun h2 => ?_)
    · refine brP.mk (fun h3 => ?_) (fun h3 => ?_)
      · refine Gate.mk (by kernel_rfl) (Gate.mk (by kernel_rfl) (Gate.mk (by kernel_rfl) (Gate.mk (by kernel_rfl) (Gate.mk (by kernel_rfl) (Gate.mk (by kernel_rfl) ?_)))))
        refine nthK.mk (v := .str (wrS p q r way)) ?_ (gate.mk (decide_eq_true (by lia)) ?_)
        · exact match way, hw with
          | 0, _ => by show some (V.str _) = some (V.str ⟨(34 :: (nL p ++ (nL q ++ (nL r ++ [34])))).toArray⟩); rw [nL_t hp h1, nL_t hq h2, nL_t hr h3]; kernel_rfl
          | 1, _ => by kernel_rfl
          | 2, _ => by kernel_rfl
        · exact Tidy.by [] [] ⟨rfl, rfl⟩
      · refine Gate.mk (by kernel_rfl) ?_
        refine Gate.mk (by kernel_rfl) (Gate.mk (by kernel_rfl) (Gate.mk (by kernel_rfl) (Gate.mk (by kernel_rfl) (Gate.mk (by kernel_rfl) (Gate.mk (by kernel_rfl) ?_)))))
        refine nthK.mk (v := .str (wrS p q r way)) ?_ (gate.mk (decide_eq_true (by lia)) ?_)
        · exact match way, hw with
          | 0, _ => by show some (V.str _) = some (V.str ⟨(34 :: (nL p ++ (nL q ++ (nL r ++ [34])))).toArray⟩); rw [nL_t hp h1, nL_t hq h2, nL_f hr h3]; kernel_rfl
          | 1, _ => by kernel_rfl
          | 2, _ => by kernel_rfl
        · exact Tidy.by [] [] ⟨rfl, rfl⟩
    · refine Gate.mk (by kernel_rfl) ?_
      refine brP.mk (fun h3 => ?_) (fun h3 => ?_)
      · refine Gate.mk (by kernel_rfl) (Gate.mk (by kernel_rfl) (Gate.mk (by kernel_rfl) (Gate.mk (by kernel_rfl) (Gate.mk (by kernel_rfl) (Gate.mk (by kernel_rfl) ?_)))))
        refine nthK.mk (v := .str (wrS p q r way)) ?_ (gate.mk (decide_eq_true (by lia)) ?_)
        · exact match way, hw with
          | 0, _ => by show some (V.str _) = some (V.str ⟨(34 :: (nL p ++ (nL q ++ (nL r ++ [34])))).toArray⟩); rw [nL_t hp h1, nL_f hq h2, nL_t hr h3]; kernel_rfl
          | 1, _ => by kernel_rfl
          | 2, _ => by kernel_rfl
        · exact Tidy.by [] [] ⟨rfl, rfl⟩
      · refine Gate.mk (by kernel_rfl) ?_
        refine Gate.mk (by kernel_rfl) (Gate.mk (by kernel_rfl) (Gate.mk (by kernel_rfl) (Gate.mk (by kernel_rfl) (Gate.mk (by kernel_rfl) (Gate.mk (by kernel_rfl) ?_)))))
        refine nthK.mk (v := .str (wrS p q r way)) ?_ (gate.mk (decide_eq_true (by lia)) ?_)
        · exact match way, hw with
          | 0, _ => by show some (V.str _) = some (V.str ⟨(34 :: (nL p ++ (nL q ++ (nL r ++ [34])))).toArray⟩); rw [nL_t hp h1, nL_f hq h2, nL_f hr h3]; kernel_rfl
          | 1, _ => by kernel_rfl
          | 2, _ => by kernel_rfl
        · exact Tidy.by [] [] ⟨rfl, rfl⟩
  · refine Gate.mk (by kernel_rfl) ?_
    refine brP.mk (fun h2 => ?_) (fun h2 => ?_)
    · refine brP.mk (fun h3 => ?_) (fun h3 => ?_)
      · refine Gate.mk (by kernel_rfl) (Gate.mk (by kernel_rfl) (Gate.mk (by kernel_rfl) (Gate.mk (by kernel_rfl) (Gate.mk (by kernel_rfl) (Gate.mk (by kernel_rfl) ?_)))))
        refine nthK.mk (v := .str (wrS p q r way)) ?_ (gate.mk (decide_eq_true (by lia)) ?_)
        · exact match way, hw with
          | 0, _ => by show some (V.str _) = some (V.str ⟨(34 :: (nL p ++ (nL q ++ (nL r ++ [34])))).toArray⟩); rw [nL_f hp h1, nL_t hq h2, nL_t hr h3]; kernel_rfl
          | 1, _ => by kernel_rfl
          | 2, _ => by kernel_rfl
        · exact Tidy.by [] [] ⟨rfl, rfl⟩
      · refine Gate.mk (by kernel_rfl) ?_
        refine Gate.mk (by kernel_rfl) (Gate.mk (by kernel_rfl) (Gate.mk (by kernel_rfl) (Gate.mk (by kernel_rfl) (Gate.mk (by kernel_rfl) (Gate.mk (by kernel_rfl) ?_)))))
        refine nthK.mk (v := .str (wrS p q r way)) ?_ (gate.mk (decide_eq_true (by lia)) ?_)
        · exact match way, hw with
          | 0, _ => by show some (V.str _) = some (V.str ⟨(34 :: (nL p ++ (nL q ++ (nL r ++ [34])))).toArray⟩); rw [nL_f hp h1, nL_t hq h2, nL_f hr h3]; kernel_rfl
          | 1, _ => by kernel_rfl
          | 2, _ => by kernel_rfl
        · exact Tidy.by [] [] ⟨rfl, rfl⟩
    · refine Gate.mk (by kernel_rfl) ?_
      refine brP.mk (fun h3 => ?_) (fun h3 => ?_)
      · refine Gate.mk (by kernel_rfl) (Gate.mk (by kernel_rfl) (Gate.mk (by kernel_rfl) (Gate.mk (by kernel_rfl) (Gate.mk (by kernel_rfl) (Gate.mk (by kernel_rfl) ?_)))))
        refine nthK.mk (v := .str (wrS p q r way)) ?_ (gate.mk (decide_eq_true (by lia)) ?_)
        · exact match way, hw with
          | 0, _ => by show some (V.str _) = some (V.str ⟨(34 :: (nL p ++ (nL q ++ (nL r ++ [34])))).toArray⟩); rw [nL_f hp h1, nL_f hq h2, nL_t hr h3]; kernel_rfl
          | 1, _ => by kernel_rfl
          | 2, _ => by kernel_rfl
        · exact Tidy.by [] [] ⟨rfl, rfl⟩
      · refine Gate.mk (by kernel_rfl) ?_
        refine Gate.mk (by kernel_rfl) (Gate.mk (by kernel_rfl) (Gate.mk (by kernel_rfl) (Gate.mk (by kernel_rfl) (Gate.mk (by kernel_rfl) (Gate.mk (by kernel_rfl) ?_)))))
        refine nthK.mk (v := .str (wrS p q r way)) ?_ (gate.mk (decide_eq_true (by lia)) ?_)
        · exact match way, hw with
          | 0, _ => by show some (V.str _) = some (V.str ⟨(34 :: (nL p ++ (nL q ++ (nL r ++ [34])))).toArray⟩); rw [nL_f hp h1, nL_f hq h2, nL_f hr h3]; kernel_rfl
          | 1, _ => by kernel_rfl
          | 2, _ => by kernel_rfl
        · exact Tidy.by [] [] ⟨rfl, rfl⟩
theorem u_written (w : Wo W P (glOf P)) {p q r way : Nat} {Q : V → List AO → Prop} (hp : p < 4) (hq : q < 4) (hr : r < 4) (hw : way < 3) (k : Q (.str (wrS p q r way)) H) : Cl W (n + 1) H (.gref 160) [.str (wd p q r), .int way] [] [] Q :=
  .useV (c_written w hp hq hr hw) rfl rfl rfl (fun _ => rfl) k
end
end Mine

-- FILE Q12
open PySem PySem.W PyProof.Rows
set_option Elab.async false
set_option autoImplicit false
set_option maxRecDepth 100000
namespace Mine
noncomputable def bis5 (v k0 k1 k2 k3 k4 : Int) : Nat := if v < k2 then (if v < k1 then (if v < k0 then 0 else 1) else 2) else (if v < k4 then (if v < k3 then 3 else 4) else 5)
theorem bis5_le {v a b c d e : Int} : bis5 v a b c d e ≤ 5 := by
  unfold bis5
  split <;> split <;> (try split) <;> lia
noncomputable def endQ (side level y dx dy : Int) : Int := (side * dx * (side * (level - y))).fdiv (side * dy)
noncomputable def endR (side level y dx dy : Int) : Int := (side * dx * (side * (level - y))).fmod (side * dy)
noncomputable def endX (side level x y dx dy : Int) : Int := x + side * endQ side level y dx dy
noncomputable def endT (side level y dx dy : Int) : Int := if endR side level y dx dy == 0 then 1 else 0
section
variable {W : Wd} {P : Params} {gl : Str → Option Value} {n k : Nat} {H H1 H2 : List AO} {ae : AE} {m : List Nat} {L : List AO}
theorem Cl.fnE (hB : Base W gl) {f : V} {c : CInfo} {as : List V} {kn : List Str} {kv : List V} {bs : List (Str × V)} {Q : V → List AO → Prop} {cs : List (Str × Nat)} {b : Expr} {nm : List (Str × NameKind)} {ex : List (Str × Const)} {q : Str}
    (hf : Callable W H f c) (hb : Bnd W n H c as kn kv bs) (hbd : c.body = .expr b) (hsc : c.scope = ⟨.function, nm, false, false, ex⟩)
    (hq : c.qual = q) {cl : List (Str × Nat)} (hcl : c.cells = cl) (hk : H.length = k) (hH : H ++ [.ns []] = H1) (hl : layC nm cl H1 = (cs, H2))
    (h : Binds W n (frm nm ex (q ++ ".<locals>.") c.code k cs) bs H2 fun H1 => Ev W n (frm nm ex (q ++ ".<locals>.") c.code k cs) H1 b Q) : Cl W (n + 1) H f as kn kv Q := by
  subst hk hH hq hcl
  refine Cl.fn hB hf hb (by rw [hsc]) (by rw [hsc]) ?_
  have e : calleeAE c.scope c.cells (c.qual ++ ".<locals>.") c.code H = frm nm ex (c.qual ++ ".<locals>.") c.code H.length cs := by
    unfold calleeAE frm
    rw [hsc, hl]
  rw [e, hbd, hsc, hl]
  exact h
theorem Ev.lambda' (hB : Base W gl) {c PP : Addr} {params : Arguments} {body : Expr} {scope : Scope} {pos : Pos} {cs : List (Str × Nat)} {Q : V → List AO → Prop} {f : AFn}
    (hC : Coded W c PP (ae.qual ++ "<lambda>")) (hcode : ae.code = some c) (hd : ∀ env, defaultsOf params env = ([], [])) (hkw : params.kwonlyargs = []) (hcl : closA ae.cells scope.names [] = some cs)
    (hf : f = { name := "<lambda>", qual := ae.qual ++ "<lambda>", params, body := .expr body, scope, cells := cs, dict := Option.none })
    (h : newK H (.fn f) Q) : Ev W n ae H (.Lambda params body scope pos) Q := by
  subst hf
  rw [newK_eq] at h
  exact Ev.lambda hB hC hcode hd hkw hcl h
noncomputable def e0 : Expr := .Constant .none 0 ⟨0, 0, 0, 0⟩
noncomputable def lamA (e : Expr) (q : Str) (cells : List (Str × Nat)) : AFn := if h : e.ctorIdx = 4 then Expr.Lambda.elim (motive_1 := fun _ => AFn) e h fun params body scope _ => { name := "<lambda>", qual := q, params, body := .expr body, scope, cells, dict := Option.none }
  else ⟨"", "", ⟨[], [], none, [], [], none, []⟩, .stmts [], ⟨.function, [], false, false, []⟩, cells, Option.none⟩
/-- the first keyword's value of a call -/
noncomputable def callKw (e : Expr) : Expr := if h : e.ctorIdx = 16 then Expr.Call.elim (motive_1 := fun _ => Expr) e h fun _ _ ks _ => (match ks with | k :: _ => k.value | [] => e0) else e0
noncomputable def binL (e : Expr) : Expr := if h : e.ctorIdx = 2 then Expr.BinOp.elim (motive_1 := fun _ => Expr) e h fun l _ _ _ => l else e0
noncomputable def asgV (s : Stmt) : Expr := if h : s.ctorIdx = 5 then Stmt.Assign.elim (motive_2 := fun _ => Expr) s h fun _ v _ => v else e0
noncomputable def lam212 (P : Params) (cells : List (Str × Nat)) : AFn := lamA (callKw (binL (match (ci P 212).body with | .stmts (s :: _) => asgV s | _ => e0))) ((ci P 212).qual ++ ".<locals>." ++ "<lambda>") cells
theorem ren_fn {m : List Nat} {f : AFn} (h : renCells m f.cells = some f.cells) (hd : renDict m f.dict = some f.dict) : AO.ren m (.fn f) = .fn f := AO.ren_fn h hd
theorem c_key (w : Wo W P (glOf P)) {side x y : Int} (hs : Fits side) : Cl W (n + 1) [.cell (some (.int side)), .fn (lam212 P [("side", 0)]), .lst [.int x, .int y]] (.ref 1) [.ref 2] [] [] fun v L => v = .int (side * y) ∧ L = [.cell (some (.int side)), .fn (lam212 P [("side", 0)]), .lst [.int x, .int y]] := by
  refine Cl.tidy ?_
  refine Cl.fnE w.base (.ref (f := lam212 P [("side", 0)]) (by rfl)) (Bnd.p1 (n1 := "spot") w.K (fun S x => by kernel_rfl)) rfl rfl rfl (cl := [("side", 0)]) rfl rfl rfl rfl (Binds.go (Ev.go w.base 60 ?_))
  refine Gate.mk (fit_l hs) ?_
  exact Tidy.by [] [1] ⟨ren_fn rfl rfl, rfl, rfl⟩
theorem u_key (w : Wo W P (glOf P)) {side x y : Int} {c f l : Nat} {Q : V → List AO → Prop} (hs : Fits side) (nd : [c, f, l].Nodup) (hc : H[c]? = some (.cell (some (.int side)))) (hf : H[f]? = some (.fn (lam212 P [("side", c)]))) (hl : H[l]? = some (.lst [.int x, .int y])) (k : Q (.int (side * y)) H) : Cl W (n + 1) H (.ref f) [.ref l] [] [] Q := by
  refine Cl.use [c, f, l] [.cell (some (.int side)), .fn (lam212 P [("side", 0)]), .lst [.int x, .int y]] (.of nd ⟨hc, hf, hl, trivial⟩) (c_key (n := n) w hs) rfl rfl rfl ?_
  have e : mrg (ext [c, f, l] 3 H.length 3) [c, f, l] [.cell (some (.int side)), .fn (lam212 P [("side", 0)]), .lst [.int x, .int y]] H = H := by
    show ((H.set c (.cell (some (.int side)))).set f (.fn (lam212 P [("side", c)]))).set l (.lst [.int x, .int y]) ++ [] = H
    rw [same_set hc, same_set hf, same_set hl, List.append_nil]
  exact Eq.mpr (congrArg (Q (.int (side * y))) e) k
noncomputable def rimL (P : Params) (side x0 y0 x1 y1 x2 y2 x3 y3 x4 y4 : Int) : List AO := [.lst [.ref 1, .ref 2, .ref 3, .ref 4, .ref 5], .lst [.int x0, .int y0], .lst [.int x1, .int y1], .lst [.int x2, .int y2], .lst [.int x3, .int y3], .lst [.int x4, .int y4], .cell (some (.int side)), .fn (lam212 P [("side", 6)])]
theorem c_bis5 (w : Wo W P (glOf P)) {v side x0 y0 x1 y1 x2 y2 x3 y3 x4 y4 : Int} (hs : Fits side) : Cl W (n + 2) (rimL P side x0 y0 x1 y1 x2 y2 x3 y3 x4 y4) (.gref 74) [.ref 0, .int v] ["key"] [.ref 7] fun u L => u = .int (bis5 v (side * y0) (side * y1) (side * y2) (side * y3) (side * y4) : Nat) ∧ L = rimL P side x0 y0 x1 y1 x2 y2 x3 y3 x4 y4 := by
  refine Cl.tidy ?_
  refine Cl.fnC w.base (w.fn (ok74 P)) (Bnd.k2 (t := 284) (n1 := "a") (n2 := "x") (n3 := "lo") (n4 := "hi") (n5 := "key") w.K (fun S x y u => by kernel_rfl)) rfl rfl rfl (cl := []) rfl rfl rfl rfl (Binds.go (Exs.go w.base 60 ?_))
  refine Raw.mk (Whl.go (n := n + 1) w.base 60 ?_)
  refine Raw.mk ⟨Kee.ref rfl, u_key (c := 6) w hs (by decide) rfl rfl rfl ?_⟩
  refine brP.mk (fun hc => ?_) (fun hc => ?_)
  · have h2 := of_decide_eq_true hc
    refine Raw.mk (Whl.go (n := n + 1) w.base 60 ?_)
    refine Raw.mk ⟨Kee.ref rfl, u_key (c := 6) w hs (by decide) rfl rfl rfl ?_⟩
    refine brP.mk (fun hc => ?_) (fun hc => ?_)
    · have h1 := of_decide_eq_true hc
      refine Raw.mk (Whl.go (n := n + 1) w.base 60 ?_)
      refine Raw.mk ⟨Kee.ref rfl, u_key (c := 6) w hs (by decide) rfl rfl rfl ?_⟩
      refine brP.mk (fun hc => ?_) (fun hc => ?_)
      · have h0 := of_decide_eq_true hc
        refine Raw.mk (Whl.go (n := n + 1) w.base 60 ?_)
        exact Tidy.by [] [7] ⟨ren_fn rfl rfl, by rw [bis5, if_pos h2, if_pos h1, if_pos h0]; rfl, rfl⟩
      · have h0 := of_decide_eq_false hc
        refine Raw.mk (Whl.go (n := n + 1) w.base 60 ?_)
        exact Tidy.by [] [7] ⟨ren_fn rfl rfl, by rw [bis5, if_pos h2, if_pos h1, if_neg h0]; rfl, rfl⟩
    · have h1 := of_decide_eq_false hc
      refine Raw.mk (Whl.go (n := n + 1) w.base 60 ?_)
      exact Tidy.by [] [7] ⟨ren_fn rfl rfl, by rw [bis5, if_pos h2, if_neg h1]; rfl, rfl⟩
  · have h2 := of_decide_eq_false hc
    refine Raw.mk (Whl.go (n := n + 1) w.base 60 ?_)
    refine Raw.mk ⟨Kee.ref rfl, u_key (c := 6) w hs (by decide) rfl rfl rfl ?_⟩
    refine brP.mk (fun hc => ?_) (fun hc => ?_)
    · have h4 := of_decide_eq_true hc
      refine Raw.mk (Whl.go (n := n + 1) w.base 60 ?_)
      refine Raw.mk ⟨Kee.ref rfl, u_key (c := 6) w hs (by decide) rfl rfl rfl ?_⟩
      refine brP.mk (fun hc => ?_) (fun hc => ?_)
      · have h3 := of_decide_eq_true hc
        refine Raw.mk (Whl.go (n := n + 1) w.base 60 ?_)
        exact Tidy.by [] [7] ⟨ren_fn rfl rfl, by rw [bis5, if_neg h2, if_pos h4, if_pos h3]; rfl, rfl⟩
      · have h3 := of_decide_eq_false hc
        refine Raw.mk (Whl.go (n := n + 1) w.base 60 ?_)
        exact Tidy.by [] [7] ⟨ren_fn rfl rfl, by rw [bis5, if_neg h2, if_pos h4, if_neg h3]; rfl, rfl⟩
    · have h4 := of_decide_eq_false hc
      refine Raw.mk (Whl.go (n := n + 1) w.base 60 ?_)
      exact Tidy.by [] [7] ⟨ren_fn rfl rfl, by rw [bis5, if_neg h2, if_neg h4]; rfl, rfl⟩
theorem mrg_same (v : View m L H) : mrg (ext m L.length H.length L.length) m L H = H := by
  have e : ext m L.length H.length L.length = m := by simp [ext]
  rw [e]
  have hl : m.length ≤ L.length := Nat.le_of_eq v.len
  refine List.ext_getElem? fun i => ?_
  by_cases hi : i < H.length
  · by_cases him : i ∈ m
    · obtain ⟨q, hq⟩ := List.getElem?_of_mem him
      have hql : q < L.length := by rw [← v.len]; exact (List.getElem?_eq_some_iff.mp hq).1
      rw [mrg_in hl v.nd hi hq (List.getElem?_eq_getElem hql), v.ent q i _ hq (List.getElem?_eq_getElem hql)]
    · exact mrg_out hl hi him
  · have : (mrg m m L H).length = H.length := by rw [mrg_len hl]; have := v.len; lia
    rw [List.getElem?_eq_none (by lia), List.getElem?_eq_none (by lia)]
/-- a callee that leaves what it reads as it was -/
theorem Cl.useSame {f f' : V} {as kv as' kv' : List V} {kn : List Str} {v0 : V} {Q' : V → List AO → Prop} (m : List Nat) (L : List AO) (hv : View m L H) (h : Cl W n L f as kn kv fun v L' => v = v0 ∧ L' = L)
    (ef : f.ren m = f') (ea : as.map (V.ren m) = as') (ek : kv.map (V.ren m) = kv') (e0 : ∀ m, v0.ren m = v0) (k : Q' v0 H) : Cl W n H f' as' kn kv' Q' := by
  refine Cl.use m L hv h ef ea ek ?_
  rw [mrg_same hv, e0]
  exact k
noncomputable def endL (X Y DX DY : Nat → Int) : List AO := [.lst [.ref 1, .ref 2, .ref 3, .ref 4, .ref 5], .lst [.int (X 0), .int (Y 0)], .lst [.int (X 1), .int (Y 1)], .lst [.int (X 2), .int (Y 2)], .lst [.int (X 3), .int (Y 3)], .lst [.int (X 4), .int (Y 4)],
  .lst [.ref 7, .ref 8, .ref 9, .ref 10, .ref 11], .lst [.int (DX 0), .int (DY 0)], .lst [.int (DX 1), .int (DY 1)], .lst [.int (DX 2), .int (DY 2)], .lst [.int (DX 3), .int (DY 3)], .lst [.int (DX 4), .int (DY 4)]]
noncomputable def kAt (Y : Nat → Int) (side level : Int) : Nat := bis5 (side * level) (side * Y 0) (side * Y 1) (side * Y 2) (side * Y 3) (side * Y 4)
noncomputable def Small (x : Int) : Prop := -1000 ≤ x ∧ x ≤ 1000
theorem Int.abs_mul_le {a b : Int} {m n : Nat} (ha : a.natAbs ≤ m) (hb : b.natAbs ≤ n) : (a * b).natAbs ≤ m * n := by rw [Int.natAbs_mul]; exact Nat.mul_le_mul ha hb
theorem fits_one {side : Int} (hs : side.natAbs = 1) : Fits side := ⟨by lia, by lia⟩
theorem small_abs {x : Int} (h : Small x) : x.natAbs ≤ 1000 := by unfold Small at h; lia
theorem small_sub {x y : Int} (h : Small x) (k : Small y) : (x - y).natAbs ≤ 2000 := by unfold Small at *; lia
theorem fits_nat {x : Int} (h : x.natAbs ≤ 1000) : Fits x := ⟨by lia, by lia⟩
theorem end_fits {X Y DX DY : Nat → Int} {side level : Int} (hs : side.natAbs = 1) (hl : Small level) (hX : ∀ i, Small (X i)) (hY : ∀ i, Small (Y i)) (hDX : ∀ i, Small (DX i)) (hDY : ∀ i, Small (DY i)) (j : Nat) :
    Fits (side * DX j) ∧ (side * DY j).natAbs < 2 ^ 60 ∧ (side * DX j * (side * (level - Y j))).natAbs < 2 ^ 100 := by
  have h1 : (side * (level - Y j)).natAbs ≤ 1 * 2000 := Int.abs_mul_le (Nat.le_of_eq hs) (small_sub hl (hY j))
  have h2 : (side * DX j).natAbs ≤ 1 * 1000 := Int.abs_mul_le (Nat.le_of_eq hs) (small_abs (hDX j))
  have h4 : (side * DY j).natAbs ≤ 1 * 1000 := Int.abs_mul_le (Nat.le_of_eq hs) (small_abs (hDY j))
  exact ⟨fits_nat h2, Nat.lt_of_le_of_lt h4 (by decide), Nat.lt_of_le_of_lt (Int.abs_mul_le h2 h1) (by decide)⟩
theorem c_end (w : Wo W P (glOf P)) {X Y DX DY : Nat → Int} {side level : Int} (hs : side.natAbs = 1) (hl : Small level) (hX : ∀ i, Small (X i)) (hY : ∀ i, Small (Y i)) (hDX : ∀ i, Small (DX i)) (hDY : ∀ i, Small (DY i))
    (hk : 1 ≤ kAt Y side level) (hd : DY (kAt Y side level - 1) ≠ 0) :
    Cl W (n + 106) (endL X Y DX DY) (.gref 212) [.ref 0, .ref 6, .int side, .int level] [] [] fun v L => v = .ref 12 ∧ L = endL X Y DX DY ++ [.lst [.int (endX side level (X (kAt Y side level - 1)) (Y (kAt Y side level - 1)) (DX (kAt Y side level - 1)) (DY (kAt Y side level - 1))), .int (endT side level (Y (kAt Y side level - 1)) (DX (kAt Y side level - 1)) (DY (kAt Y side level - 1)))]] := by
  have hsf : Fits side := fits_one hs
  obtain ⟨j, hj⟩ : ∃ j, kAt Y side level = j + 1 := ⟨kAt Y side level - 1, (Nat.succ_pred_eq_of_pos hk).symm⟩
  have hj4 : j < 5 := Nat.lt_of_succ_le (hj ▸ bis5_le : j + 1 ≤ 5)
  have hj' : bis5 (side * level) (side * Y 0) (side * Y 1) (side * Y 2) (side * Y 3) (side * Y 4) = j + 1 := hj
  rw [hj] at hd
  rw [hj]
  rw [Nat.add_sub_cancel] at hd ⊢
  have F := end_fits hs hl hX hY hDX hDY j
  have hd0 : side * DY j ≠ 0 := Int.mul_ne_zero (fun q => absurd (q ▸ hs) (by decide)) hd
  unfold endL
  refine Cl.tidy ?_
  refine Cl.fnC w.base (w.fn (ok212 P)) (Bnd.p4 (n1 := "rim") (n2 := "steps") (n3 := "side") (n4 := "level") w.K (fun S x y z u => by kernel_rfl)) rfl rfl rfl (cl := []) rfl rfl rfl rfl (Binds.go (Exs.go w.base 60 ?_))
  refine Gate.mk (fit_l hsf) ?_
  refine Raw.mk ?_
  refine Ev.lambda' (f := lam212 P [("side", 13)]) w.base (w.coded (c := 211) (PP := 207) (by kernel_rfl) (by decide) (w.q207.trans (by kernel_rfl))) (by kernel_rfl) (fun _ => rfl) rfl rfl (by rfl) ?_
  refine w.call (ok74 P) (Cl.useSame (n := n + 105) [0, 1, 2, 3, 4, 5, 13, 14] (rimL P side (X 0) (Y 0) (X 1) (Y 1) (X 2) (Y 2) (X 3) (Y 3) (X 4) (Y 4)) (.of (by decide) ⟨rfl, rfl, rfl, rfl, rfl, rfl, rfl, rfl, trivial⟩) ((c_bis5 (n := n) w hsf).le (by lia)) rfl rfl rfl (fun _ => rfl) ?_)
  rw [hj']
  obtain ⟨hff, hu1, hu2⟩ := F
  match j, hj4, hd0, hff, hu1, hu2 with
  | 0, _, hd0, hff, hu1, hu2 | 1, _, hd0, hff, hu1, hu2 | 2, _, hd0, hff, hu1, hu2 | 3, _, hd0, hff, hu1, hu2 | 4, _, hd0, hff, hu1, hu2 =>
    refine Gate.mk (fit_l hsf) (Gate.mk (fit_l hsf) (Gate.mk (fit_l hff) (Gate.mk (fit_l hsf) ?_)))
    refine w.call (ok56 P) (u_idm w hd0 hu1 hu2 ?_)
    refine Gate.mk (fit_l hsf) ?_
    exact Tidy.by [16] [] ⟨rfl, rfl⟩
end
end Mine

-- FILE Q13
open PySem PySem.W PyProof.Rows
set_option Elab.async false
set_option autoImplicit false
set_option maxRecDepth 100000
namespace Mine
noncomputable def chs (cs : List Nat) : List V := cs.map fun c => V.str ⟨#[c]⟩
theorem chs_len {cs : List Nat} : (chs cs).length = cs.length := by simp [chs]
theorem map_ren_chs {m : List Nat} {cs : List Nat} : (chs cs).map (V.ren m) = chs cs := by
  rw [chs, List.map_map]; rfl
theorem ren_chs {m : List Nat} {cs : List Nat} : AO.ren m (.lst (chs cs)) = .lst (chs cs) := by
  rw [AO.ren_lst, map_ren_chs]
theorem signs_chs {x : Str} : signs x = chs x.cps.toList := rfl
noncomputable def strmF (P : Params) (d : Option Nat) : AFn := match (ci P 155).body with
  | .stmts (_ :: .Assign _ (.Lambda params body scope _) _ :: _) => { name := "<lambda>", qual := (ci P 155).qual ++ ".<locals>." ++ "<lambda>", params, body := .expr body, scope, cells := [], dict := d }
  | _ => ⟨"", "", ⟨[], [], none, [], [], none, []⟩, .stmts [], ⟨.function, [], false, false, []⟩, [], d⟩
noncomputable def readF (P : Params) (cells : List (Str × Nat)) : AFn := match (ci P 155).body with
  | .stmts (_ :: _ :: .Assign _ (.Lambda params body scope _) _ :: _) => { name := "<lambda>", qual := (ci P 155).qual ++ ".<locals>." ++ "<lambda>", params, body := .expr body, scope, cells, dict := none }
  | _ => ⟨"", "", ⟨[], [], none, [], [], none, []⟩, .stmts [], ⟨.function, [], false, false, []⟩, cells, none⟩
section
variable {W : Wd} {P : Params} {gl : Str → Option Value} {n k : Nat} {H H1 H2 : List AO} {ae : AE} {m : List Nat} {L : List AO}
theorem c_stream (w : Wo W P (glOf P)) {x : Str} (hx : x.cps.size ≤ 1000000) : Cl W (n + 2) [] (.gref 155) [.str x] [] [] fun v L => v = .ref 2 ∧ L = [.cell (some (.ref 1)), .lst (chs x.cps.toList), .fn (strmF P (some 4)), .fn (readF P [("signs", 0)]), .ns [("read", .ref 3)]] := by
  refine Cl.tidy ?_
  refine Cl.fnC w.base (w.fn (ok155 P)) (Bnd.p1 (n1 := "text") w.K (fun S x => by kernel_rfl)) rfl rfl rfl (cl := []) rfl rfl rfl rfl (Binds.go (Exs.go w.base 60 ?_))
  refine gate.mk (decide_eq_true hx) ?_
  rw [signs_chs]
  refine Raw.mk ?_
  refine Ev.lambda' (f := strmF P none) w.base (w.coded (c := 154) (PP := 150) (by kernel_rfl) (by decide) (w.q150.trans (by kernel_rfl))) (by kernel_rfl) (fun _ => rfl) rfl rfl (by rfl) ?_
  refine Raw.mk ?_
  refine Ev.lambda' (f := readF P [("signs", 1)]) w.base (w.coded (c := 154) (PP := 150) (by kernel_rfl) (by decide) (w.q150.trans (by kernel_rfl))) (by kernel_rfl) (fun _ => rfl) rfl rfl (by rfl) ?_
  refine Raw.mk ?_
  refine Sat.fnRead rfl rfl ?_
  exact Tidy.by [1, 2, 3, 4, 5] [2] ⟨ren_chs, rfl, rfl⟩
theorem c_read (w : Wo W P (glOf P)) {cs : List Nat} (hx : cs.length ≤ 1000000) : Cl W (n + 1) [.cell (some (.ref 1)), .lst (chs cs), .fn (readF P [("signs", 0)])] (.ref 2) [.int 1] [] [] fun v L => v = .str ⟨(cs.take 1).toArray⟩ ∧ L = [.cell (some (.ref 1)), .lst (chs (cs.drop 1)), .fn (readF P [("signs", 0)])] := by
  refine Cl.tidy ?_
  refine Cl.fnE w.base (.ref (f := readF P [("signs", 0)]) (by rfl)) (Bnd.p1 (n1 := "count") w.K (fun S x => by kernel_rfl)) rfl rfl rfl (cl := [("signs", 0)]) rfl rfl rfl rfl (Binds.go (Ev.go w.base 60 ?_))
  induction cs using List.casesOn with
  | nil =>
    refine Gate.mk rfl ?_
    exact Tidy.by [] [2] ⟨ren_fn rfl rfl, rfl, rfl⟩
  | cons c cs =>
    have hl : (chs cs).length = cs.length := chs_len
    have hx1 : cs.length + 1 ≤ 1000000 := by simpa using hx
    rw [show chs (c :: cs) = .str ⟨#[c]⟩ :: chs cs from rfl]
    refine gate.mk (decide_eq_true (by rw [List.length_cons, hl]; exact hx1)) ?_
    refine gate.mk (decide_eq_true (by rw [List.length_cons, hl]; exact hx1)) ?_
    refine Gate.mk rfl ?_
    exact Tidy.by [] [1, 2] ⟨ren_chs, ren_fn rfl rfl, rfl, rfl⟩
end
end Mine

-- FILE Q14
open PySem PySem.W PyProof.Rows
set_option Elab.async false
set_option autoImplicit false
set_option maxRecDepth 100000
namespace Mine
noncomputable def tks (l : List Str) : List V := l.map V.str
theorem tks_len {l : List Str} : (tks l).length = l.length := by simp [tks]
theorem map_ren_tks {m : List Nat} {l : List Str} : (tks l).map (V.ren m) = tks l := by
  rw [tks, List.map_map]; rfl
theorem ren_tks {m : List Nat} {l : List Str} : AO.ren m (.lst (tks l)) = .lst (tks l) := by
  rw [AO.ren_lst, map_ren_tks]
theorem cls144 (P : Params) : ClsOk (hpK P) 144 := ⟨by kernel_rfl, by kernel_rfl, by kernel_rfl, by
  have h : (clsIn (hpK P) 144).map ClassData.hasDict = some true := by kernel_rfl
  cases e : clsIn (hpK P) 144 with
  | none => rw [e] at h; cases h
  | some cd => rw [e] at h; exact ⟨cd, rfl, Option.some.inj h⟩, by kernel_rfl⟩
theorem f_instream (P : Params) : findIn (hpK P) (.ref 144) "instream" = some none := by kernel_rfl
theorem f_lineno (P : Params) : findIn (hpK P) (.ref 144) "lineno" = some none := by kernel_rfl
theorem f_pushback (P : Params) : findIn (hpK P) (.ref 144) "pushback" = some none := by kernel_rfl
theorem f_whitespace (P : Params) : findIn (hpK P) (.ref 144) "whitespace" = some none := by kernel_rfl
theorem t_lineno (P : Params) : takerIn (hpK P) 144 "lineno" = some none := by kernel_rfl
theorem t_instream (P : Params) : takerIn (hpK P) 144 "instream" = some none := by kernel_rfl
theorem t_whitespace (P : Params) : takerIn (hpK P) 144 "whitespace" = some none := by kernel_rfl
theorem t_pushback (P : Params) : takerIn (hpK P) 144 "pushback" = some none := by kernel_rfl
theorem f_readch (P : Params) : findIn (hpK P) (.ref 144) "_read_char" = some (some (.ref 127)) := by kernel_rfl
theorem f_get (P : Params) : findIn (hpK P) (.ref 144) "get_token" = some (some (.ref 134)) := by kernel_rfl
theorem f_push (P : Params) : findIn (hpK P) (.ref 144) "push_token" = some (some (.ref 141)) := by kernel_rfl
theorem y_readch (P : Params) : typeIn (hpK P) (.ref 127) = some (.type "function") := by kernel_rfl
theorem y_get (P : Params) : typeIn (hpK P) (.ref 134) = some (.type "function") := by kernel_rfl
theorem y_push (P : Params) : typeIn (hpK P) (.ref 141) = some (.type "function") := by kernel_rfl
section
variable {W : Wd} {P : Params} {gl : Str → Option Value} {n k : Nat} {H H1 H2 : List AO} {ae : AE} {m : List Nat} {L : List AO}
theorem length_put_le (x : Str) (v : V) (m : List (Str × V)) : (put x v m).length ≤ m.length + 1 := by
  rw [length_put]; split <;> lia
theorem mrg_set {e : List Nat} {q j : Nat} {o : AO} (hl : m.length = L.length) (nd : m.Nodup) (hq : m[q]? = some j) (hin : ∀ j ∈ m, j < H.length) : mrg e m (L.set q o) H = (mrg e m L H).set j (o.ren e) := by
  have hl1 : m.length ≤ (L.set q o).length := by simp [hl]
  have hl2 : m.length ≤ L.length := by lia
  have hqm := (List.getElem?_eq_some_iff.mp hq).1
  refine List.ext_getElem? fun i => ?_
  have hlen : (mrg e m L H).length = H.length := by rw [mrg_len hl2]; lia
  by_cases hi : i < H.length
  · by_cases hij : i = j
    · subst hij
      rw [mrg_in hl1 nd hi hq (List.getElem?_set_self (by lia)), List.getElem?_set_self (by lia)]
    · rw [List.getElem?_set_ne (Ne.symm hij)]
      by_cases him : i ∈ m
      · obtain ⟨p, hp⟩ := List.getElem?_of_mem him
        have hpq : q ≠ p := fun x => hij (by rw [x, hp] at hq; exact Option.some.inj hq)
        have hpm := (List.getElem?_eq_some_iff.mp hp).1
        have h1 : L[p]? = some L[p] := List.getElem?_eq_getElem (by lia)
        rw [mrg_in hl1 nd hi hp (by rw [List.getElem?_set_ne hpq]; exact h1), mrg_in hl2 nd hi hp h1]
      · rw [mrg_out hl1 hi him, mrg_out hl2 hi him]
  · rw [List.getElem?_eq_none (by rw [mrg_len hl1]; simp; lia), List.getElem?_eq_none (by rw [List.length_set]; lia)]
theorem Cl.useUpd1 {f f' : V} {as kv as' kv' : List V} {kn : List Str} {v0 : V} {Q' : V → List AO → Prop} {L0 : List AO} (m : List Nat) (L : List AO) (q : Nat) {j : Nat} {o o' : AO} (hv : View m L H) (h : Cl W n L f as kn kv fun v L' => v = v0 ∧ L' = L0)
    (ef : f.ren m = f') (ea : as.map (V.ren m) = as') (ek : kv.map (V.ren m) = kv') (e0 : ∀ m, v0.ren m = v0) (eL : L.set q o = L0) (hq : m[q]? = some j) (eo : o.ren m = o') (k : Q' v0 (H.set j o')) : Cl W n H f' as' kn kv' Q' := by
  subst eL eo
  refine Cl.use m L hv h ef ea ek ?_
  rw [e0]
  have e : ext m L.length H.length (L.set q o).length = m := by simp [ext]
  have e2 : mrg m m L H = H := by have := mrg_same hv; simpa [ext] using this
  rw [e, mrg_set hv.len hv.nd hq hv.inr, e2]
  exact k
theorem Cl.useUpd2 {f f' : V} {as kv as' kv' : List V} {kn : List Str} {v0 : V} {Q' : V → List AO → Prop} {L0 : List AO} (m : List Nat) (L : List AO) (q q2 : Nat) {j j2 : Nat} {o o' o2 o2' : AO} (hv : View m L H) (h : Cl W n L f as kn kv fun v L' => v = v0 ∧ L' = L0)
    (ef : f.ren m = f') (ea : as.map (V.ren m) = as') (ek : kv.map (V.ren m) = kv') (e0 : ∀ m, v0.ren m = v0) (eL : (L.set q o).set q2 o2 = L0) (hq : m[q]? = some j) (eo : o.ren m = o') (hq2 : m[q2]? = some j2) (eo2 : o2.ren m = o2') (k : Q' v0 ((H.set j o').set j2 o2')) : Cl W n H f' as' kn kv' Q' := by
  subst eL eo eo2
  refine Cl.use m L hv h ef ea ek ?_
  rw [e0]
  have e : ext m L.length H.length ((L.set q o).set q2 o2).length = m := by simp [ext]
  have e2 : mrg m m L H = H := by have := mrg_same hv; simpa [ext] using this
  rw [e, mrg_set (by simpa using hv.len) hv.nd hq2 hv.inr, mrg_set hv.len hv.nd hq hv.inr, e2]
  exact k
end
noncomputable def callEnd : AO := .iter "callable_iterator" [.none, .none, .bool true]
section
variable {W : Wd} {n : Nat} {ae : AE} {H : List AO} {ρ : Rho}
theorem Nxt.callIt2 {k j i : Nat} {f : Addr} {sv : Str} {o : Obj} {fd : FuncData} {Q : Option V → List AO → Prop} (hk : H[k]? = some (Mine.callIt j sv)) (hj : H[j]? = some (meth f i)) (hf : W.B.get? f = some o) (hfd : o.data = .func fd)
    (h : ClC W n H (.ref j) [] [] [] fun v H1 => H1[k]? = some (Mine.callIt j sv) ∧ H1[j]? = some (meth f i) ∧ ∃ x, v = .str x ∧ (x ≠ sv → Q (some v) H1) ∧ (x = sv → Q none (H1.set k callEnd))) : Nxt W (n + 1) H (.ref k) Q := fun ρ _ ⟨c, hc, e⟩ A s r hs g => by
  subst e
  obtain ⟨oc, b, t, ho, hcl, hd, hb⟩ := hs.callIt hc hk
  obtain ⟨a, ha, hm⟩ := hs.meth hb hj
  refine pyNext_both ⟨oc, ho, hcl⟩ slot_ci_next entry_ci_next (args_ci_next _) ?_
  refine wpAny_bind (wpAny_of_eq (a := (Value.ref c, [])) rfl ?_)
  refine wpAny_bind (wpAny_field ho hd (x := .bool false) rfl ?_)
  refine wp_no (by decide) ?_
  refine wpAny_bind (wpAny_field ho hd (x := .ref b) rfl ?_)
  have hr : Room A.in1 n := ⟨r.hd, by have := r.dp; show A.depth + 3 * n < 980; omega, by have := r.un; show A.units + 1 + 10 * n < 9800; omega⟩
  refine wpAny_bind (wpAny_attempt (wpAny_bind (borrows_method hm (hs.keep _ _ hf) hfd ?_)))
  refine wp_yes rfl ?_
  refine wpAny_callBorrowed (wpAny_mono (h.cl ρ (.ref b) [] [] ⟨b, hb, rfl⟩ trivial trivial A.in1 s hr hs g) (fun y s1 z => ?_) fun _ _ e => e.elim)
  obtain ⟨ρ1, H1, p, v, hv, k1, k2, x, e, q1, q2⟩ := z
  subst e
  obtain ⟨t2, e2⟩ := hv
  subst e2
  have hc1 := p.le.get hc
  have hb1 := p.le.get hb
  obtain ⟨o1, b1, t1, ho1, hcl1, hd1, hb1'⟩ := p.hs.callIt hc1 k1
  have eb : b1 = b := Option.some.inj (hb1'.symm.trans hb1)
  subst eb
  refine wpAny_bind (wpAny_field ho1 hd1 (x := .bool false) rfl ?_)
  refine wp_no (by decide) ?_
  refine wpAny_bind (wpAny_field ho1 hd1 (x := .str sv t1) rfl ?_)
  refine wpAny_bind (wpAny_holding (SeqAt.EqAt.str_str (A := A.in1) (s := s1) sv t1 x t2 _ _ _ _ ?_))
  by_cases hx : x = sv
  · subst hx
    rw [beq_self_eq_true]
    simp only [Bool.not_true, Bool.false_eq_true, if_false]
    refine wpAny_bind (wpAny_rule ?_)
    refine wpAny_bind ?_
    show wpAny _ _ (field (.ref c) 0 >>= _) _ _ _
    refine wpAny_bind (wpAny_field ho1 hd1 (x := .ref b1) rfl ?_)
    refine wpAny_bind ?_
    refine wpAny_bind (borrows_method (p.hs.meth hb1 k2).choose_spec.2 (p.hs.keep _ _ hf) hfd ?_)
    refine wp_yes rfl ?_
    refine wpAny_pure ?_
    have up : ∀ (s2 : Shared) (o2 : Obj) (ys : Array Value) (fu : Array Value → Array Value), s2.heap.get? c = some o2 → o2.data = .fields ys → (s2.heap.update c (Obj.mapFields fu)).get? c = some (Obj.mapFields fu o2) ∧ (Obj.mapFields fu o2).data = .fields (fu ys) := fun s2 o2 ys fu h1 h2 =>
      ⟨Heap.get?_update_self _ h1 (Obj.isFreed_of_fields (Obj.data_mapFields h2 _)), Obj.data_mapFields h2 _⟩
    obtain ⟨g1, d1⟩ := up s1 o1 _ (fun vs => vs.setIfInBounds 0 .none) ho1 hd1
    refine wpAny_bind (wpAny_setField ho1 hd1 (by simp) ?_)
    obtain ⟨g2, d2⟩ := up { s1 with heap := s1.heap.update c (Obj.mapFields fun vs => vs.setIfInBounds 0 .none) } _ _ (fun vs => vs.setIfInBounds 1 .none) g1 d1
    refine wpAny_bind (wpAny_setField g1 d1 (by simp) ?_)
    obtain ⟨g3, d3⟩ := up { s1 with heap := (s1.heap.update c (Obj.mapFields fun vs => vs.setIfInBounds 0 .none)).update c (Obj.mapFields fun vs => vs.setIfInBounds 1 .none) } _ _ (fun vs => vs.setIfInBounds 2 (.bool true)) g2 d2
    have g3 := g3
    refine wpAny_setField g2 d2 (by simp) ?_
    have sb := ((Heap.SameBut.update s1.heap c (Obj.mapFields fun vs => vs.setIfInBounds 0 .none)).trans (Heap.SameBut.update _ c (Obj.mapFields fun vs => vs.setIfInBounds 1 .none))).trans (Heap.SameBut.update _ c (Obj.mapFields fun vs => vs.setIfInBounds 2 (.bool true)))
    have p2 : Post W.B ρ1 s1 _ ρ1 (H1.set k callEnd) := .set (s' := { s1 with heap := _ }) (o := callEnd) p.hs hc1 sb g3 ⟨(Obj.cls_mapFields _ _).trans ((Obj.cls_mapFields _ _).trans ((Obj.cls_mapFields _ _).trans hcl1)), _, d3, ⟨rfl, rfl, rfl, trivial⟩⟩ trivial (keepCode_of_set sb ho1 (by
      rintro ⟨cq, _⟩
      rw [hcl1] at cq
      injection cq with cq
      exact absurd cq (by decide))) rfl rfl
    exact wp_stop r.hd fun h' hk' => ⟨ρ1, _, (p.trans p2).trans (.grow (s' := { s1 with heap := h' }) p2.hs hk' rfl rfl), none, trivial, q2 rfl⟩
  · have : (sv == x) = false := by simpa using fun e => hx e.symm
    rw [this]
    simp only [Bool.not_false, if_true]
    exact wpAny_pure ⟨_, rfl, ρ1, H1, p, some (.str x), ⟨t2, rfl⟩, q1 hx⟩

theorem HS.callEnd {B : Bs} {h : Heap} (hs : HS B ρ H h) {k : Nat} {c : Addr} (hc : ρ[k]? = some c) (hk : H[k]? = some Mine.callEnd) : ∃ o, h.get? c = some o ∧ o.cls = .type "callable_iterator" ∧ o.data = .fields #[.none, .none, .bool true] := by
  obtain ⟨o, ho, ⟨hcl, ys, hd, hys⟩, _⟩ := hs.ent k c _ hc hk
  obtain ⟨y0, y1, y2, hy, hys⟩ := hys.ex3
  obtain ⟨e0, e1, e2, _⟩ := hys
  have e0 : y0 = .none := e0
  have e1 : y1 = .none := e1
  have e2 : y2 = .bool true := e2
  have ey : ys = #[.none, .none, .bool true] := by rw [← Array.toArray_toList (xs := ys), hy, e0, e1, e2]
  subst ey
  exact ⟨o, ho, hcl, hd⟩
theorem Nxt.callEnd {k : Nat} {Q : Option V → List AO → Prop} (hk : H[k]? = some Mine.callEnd) (h : Q none H) : Nxt W n H (.ref k) Q := fun ρ _ ⟨c, hc, e⟩ A s r hs g => by
  subst e
  obtain ⟨oc, ho, hcl, hd⟩ := hs.callEnd hc hk
  refine pyNext_both ⟨oc, ho, hcl⟩ slot_ci_next entry_ci_next (args_ci_next _) ?_
  refine wpAny_bind (wpAny_of_eq (a := (Value.ref c, [])) rfl ?_)
  refine wpAny_bind (wpAny_field ho hd (x := .bool true) rfl ?_)
  refine wp_yes (by decide) ?_
  refine wpAny_bind (wpAny_rule ?_)
  exact wpAny_bind (wp_stop r.hd fun h2 hk2 => ⟨ρ, _, .grow (s' := { s with heap := h2 }) hs hk2 rfl rfl, none, trivial, h⟩)
end
section
variable {W : Wd} {n : Nat} {ae : AE} {H L : List AO} {α β : Type} {ρ : Rho} {m : List Nat} {B : Bs} {h : Heap}
theorem Post.frame {s s' : Shared} {ρL' : Rho} {L' : List AO} (hs : HS W.B ρ H s.heap) (hv : View m L H) (p : Post W.B (pk ρ m) s s' ρL' L') :
    L.length ≤ L'.length ∧ ∃ ρ', Post W.B ρ s s' ρ' (mrg (ext m L.length H.length L'.length) m L' H) ∧ Inr ρ' (ext m L.length H.length L'.length) ∧ pk ρ' (ext m L.length H.length L'.length) = ρL' := by
  have hm := hv.inrho hs
  obtain ⟨σ, e⟩ := p.le
  subst e
  have lL : L'.length = m.length + σ.length := by rw [← p.hs.len]; simp [pk]
  have hLL : L.length ≤ L'.length := by rw [lL, hv.len]; omega
  have eE : ext m L.length H.length L'.length = ext m m.length ρ.length (m.length + σ.length) := by rw [lL, hv.len, hs.len]
  have hpk := pk_ext (σ := σ) hm
  have hinr := inr_ext (σ := σ) hm
  rw [← eE] at hpk hinr
  generalize ext m L.length H.length L'.length = E at eE hpk hinr
  have hml : m.length ≤ L'.length := by omega
  have hdis : ∀ a ∈ ρ, a ∉ σ := fun a ha hσ => by
    have h1 : a ∉ pk ρ m := fun q => (List.nodup_append.mp p.hs.nodup).2.2 a q a hσ rfl
    have h2 := p.new a (List.mem_append_right _ hσ) h1
    obtain ⟨i, e⟩ := List.getElem?_of_mem ha
    have hi : i < H.length := by rw [← hs.len]; exact (List.getElem?_eq_some_iff.mp e).1
    obtain ⟨y, ey, _⟩ := hs.ent i a H[i] e (List.getElem?_eq_getElem hi)
    rw [h2] at ey; cases ey
  refine ⟨hLL, ρ ++ σ, ⟨⟨p.hs.keep, ?_, ?_, ?_, ?_, fun P hP => ?_⟩, .snoc _ _, ?_, ?_, p.kc, p.os, p.gens⟩, hinr, hpk⟩
  · rw [mrg_len hml, List.length_append, hs.len, lL]; omega
  · rw [List.nodup_append]
    exact ⟨hs.nodup, (List.nodup_append.mp p.hs.nodup).2.1, fun a ha b hb e => hdis a ha (e ▸ hb)⟩
  · intro a ha
    rcases List.mem_append.mp ha with ha | ha
    · exact hs.fresh a ha
    · exact p.hs.fresh a (List.mem_append_right _ ha)
  · intro i a o ha ho
    by_cases hi : i < ρ.length
    · rw [List.getElem?_append_left hi] at ha
      have hiH : i < H.length := hs.len ▸ hi
      by_cases hin : i ∈ m
      · obtain ⟨qq, hq⟩ := List.getElem?_of_mem hin
        have hql : qq < L'.length := Nat.lt_of_lt_of_le (List.getElem?_eq_some_iff.mp hq).1 hml
        rw [mrg_in hml hv.nd hiH hq (List.getElem?_eq_getElem hql)] at ho
        cases ho
        obtain ⟨x, e1, e2, e3⟩ := p.hs.ent qq a L'[qq] (by
          have := (pk_get hm).mpr ⟨i, hq, ha⟩
          rw [List.getElem?_append_left (List.getElem?_eq_some_iff.mp this).1]; exact this) (List.getElem?_eq_getElem hql)
        exact ⟨x, e1, (AO.ren_is hinr).mpr (by rw [hpk]; exact e2), AO.hp_ren e3⟩
      · rw [mrg_out hml hiH hin] at ho
        obtain ⟨x, e1, e2, e3⟩ := hs.ent i a o ha ho
        refine ⟨x, p.keep a x e1 (fun hmem => ?_) (hs.tabs_not (List.mem_of_getElem? ha)), e2.mono (.snoc _ _), e3.keep p.kc⟩
        obtain ⟨j, hj, ej⟩ := pk_mem hm hmem
        exact hin (nodup_inj hs.nodup ha ej ▸ hj)
    · rw [List.getElem?_append_right (by omega)] at ha
      have hit : i = H.length + (i - ρ.length) := by rw [← hs.len]; omega
      have htl : i - ρ.length < σ.length := (List.getElem?_eq_some_iff.mp ha).1
      have htL : m.length + (i - ρ.length) < L'.length := by omega
      rw [hit, mrg_new hml (List.getElem?_eq_getElem htL)] at ho
      cases ho
      obtain ⟨x, e1, e2, e3⟩ := p.hs.ent (m.length + (i - ρ.length)) a _ (by
        rw [List.getElem?_append_right (by simp [pk])]
        simpa [pk] using ha) (List.getElem?_eq_getElem htL)
      exact ⟨x, e1, (AO.ren_is hinr).mpr (by rw [hpk]; exact e2), AO.hp_ren e3⟩
  · obtain ⟨h1, h2⟩ := p.hs.tabs P hP
    refine ⟨fun q => ?_, h2⟩
    rcases List.mem_append.mp q with q | q
    · exact (hs.tabs P hP).1 q
    · exact h1 (List.mem_append_right _ q)
  · intro a ha hn
    rcases List.mem_append.mp ha with ha | ha
    · exact absurd ha hn
    · exact p.new a (List.mem_append_right _ ha) fun q => by
        obtain ⟨j, _, ej⟩ := pk_mem hm q
        exact hn (List.mem_of_getElem? ej)
  · intro a x e hn ht
    refine p.keep a x e (fun q => ?_) ht
    obtain ⟨j, _, ej⟩ := pk_mem hm q
    exact hn (List.mem_of_getElem? ej)

theorem ClC.tidy {f : V} {as kv : List V} {kn : List Str} {Q : V → List AO → Prop} (h : ClC W n H f as kn kv (Tidy H.length Q)) : ClC W n H f as kn kv Q := fun ρ x xs ys hx hxs hys A s r hs g =>
  codeAny_mono (h ρ x xs ys hx hxs hys A s r hs g) fun r s' hr => by
    induction r with
    | error e => exact hr
    | ok f =>
      obtain ⟨ρ', H', p, y, e, v, hv, m2, L, v', hw, e2, q⟩ := hr
      exact ⟨_, L, p.view hs.len hw, y, e, v', by subst e2; exact (V.ren_rel (hw.inrho p.hs)).mp hv, q⟩
theorem ClC.frame {f : V} {as kv : List V} {kn : List Str} {Q Q' : V → List AO → Prop} (hv : View m L H) (h : ClC W n L f as kn kv Q)
    (k : ∀ v L', L.length ≤ L'.length → Q v L' → Q' (v.ren (ext m L.length H.length L'.length)) (mrg (ext m L.length H.length L'.length) m L' H)) :
    ClC W n H (f.ren m) (as.map (V.ren m)) kn (kv.map (V.ren m)) Q' := fun ρ x xs ys hx hxs hys A s r hs g => by
  have hm := hv.inrho hs
  refine codeAny_mono (h _ x xs ys ((V.ren_rel hm).mp hx) ((VL.ren hm).mp hxs) ((VL.ren hm).mp hys) A s r (hs.view hv) g) fun r s' hr => ?_
  induction r with
  | error e => exact hr
  | ok f =>
    obtain ⟨ρL', L', p, y, e, v, hvv, q⟩ := hr
    obtain ⟨hl, ρ', p', hin, hpk⟩ := p.frame hs hv
    exact ⟨ρ', _, p', y, e, _, (V.ren_rel hin).mpr (by rw [hpk]; exact hvv), k v L' hl q⟩
theorem ClC.useUpd2 {f f' : V} {as kv as' kv' : List V} {kn : List Str} {v0 : V} {Q' : V → List AO → Prop} {L0 : List AO} (m : List Nat) (L : List AO) (q q2 : Nat) {j j2 : Nat} {o o' o2 o2' : AO} (hv : View m L H) (h : ClC W n L f as kn kv fun v L' => v = v0 ∧ L' = L0)
    (ef : f.ren m = f') (ea : as.map (V.ren m) = as') (ek : kv.map (V.ren m) = kv') (e0 : ∀ m, v0.ren m = v0) (eL : (L.set q o).set q2 o2 = L0) (hq : m[q]? = some j) (eo : o.ren m = o') (hq2 : m[q2]? = some j2) (eo2 : o2.ren m = o2') (k : Q' v0 ((H.set j o').set j2 o2')) : ClC W n H f' as' kn kv' Q' := by
  subst eL eo eo2 ef ea ek
  refine ClC.frame hv h fun v L' _ ⟨e1, e2⟩ => ?_
  subst e1 e2
  rw [e0]
  have e : ext m L.length H.length ((L.set q o).set q2 o2).length = m := by simp [ext]
  have e2 : mrg m m L H = H := by have := mrg_same hv; simpa [ext] using this
  rw [e, mrg_set (by simpa using hv.len) hv.nd hq2 hv.inr, mrg_set hv.len hv.nd hq hv.inr, e2]
  exact k
theorem ClC.fnC {gl : Str → Option Value} {k : Nat} {H1 H2 : List AO} (hB : Base W gl) {f : V} {c : CInfo} {as : List V} {kn : List Str} {kv : List V} {bs : List (Str × V)} {Q : V → List AO → Prop} {cs : List (Str × Nat)} {b : List Stmt} {nm : List (Str × NameKind)} {ex : List (Str × Const)} {q : Str}
    (hf : Callable W H f c) (hb : Bnd W n H c as kn kv bs) (hbd : c.body = .stmts b) (hsc : c.scope = ⟨.function, nm, false, false, ex⟩)
    (hq : c.qual = q) {cl : List (Str × Nat)} (hcl : c.cells = cl) (hk : H.length = k) (hH : H ++ [.ns []] = H1) (hl : layC nm cl H1 = (cs, H2))
    (h : Binds W n (frm nm ex (q ++ ".<locals>.") c.code k cs) bs H2 fun H1 => Exs W n (frm nm ex (q ++ ".<locals>.") c.code k cs) H1 b fun fl H2 => Q (match fl with | .ret v => v | _ => .none) H2) : ClC W (n + 1) H f as kn kv Q := by
  subst hk hH hq hcl
  refine ClC.fn hB hf hb (by rw [hsc]) (by rw [hsc]) ?_
  have e : calleeAE c.scope c.cells (c.qual ++ ".<locals>.") c.code H = frm nm ex (c.qual ++ ".<locals>.") c.code H.length cs := by
    unfold calleeAE frm
    rw [hsc, hl]
  rw [e, hbd, hsc, hl]
  exact h
end
section
variable {W : Wd} {P : Params} {gl : Str → Option Value} {n k : Nat} {H H1 H2 : List AO} {ae : AE} {m : List Nat} {L : List AO}
noncomputable def lexL (P : Params) (line : Int) (cs : List Nat) (pb : List Str) : List AO := [.inst 144 1, .ns [("lineno", .int line), ("instream", .ref 2), ("whitespace", .str "\n\t\r "), ("pushback", .ref 7)], .fn (strmF P (some 3)), .ns [("read", .ref 4)], .fn (readF P [("signs", 5)]), .cell (some (.ref 6)), .lst (chs cs), .lst (tks pb)]
noncomputable def rdS (cs : List Nat) : Str := ⟨(cs.take 1).toArray⟩
noncomputable def rdN (cs : List Nat) : Int := if cs.head? = some 10 then 1 else 0
theorem k_readch (w : Wo W P (glOf P)) {line : Int} {cs : List Nat} {pb : List Str} (hx : cs.length ≤ 1000000) : ClC W (n + 2) (lexL P line cs pb) (.gref 127) [.ref 0] [] [] fun v L => v = .str (rdS cs) ∧ L = lexL P (line + rdN cs) (cs.drop 1) pb := by
  have hq : ((⟨(cs.take 1).toArray⟩ : Str).cps.toList == (Str.ofString "\n").cps.toList) = decide (cs.head? = some 10) := by
    induction cs using List.casesOn with
    | nil => rfl
    | cons c cs =>
      show ([c] == [10]) = decide (some c = some 10)
      by_cases h : c = 10
      · subst h; rfl
      · rw [decide_eq_false (fun e => h (Option.some.inj e))]
        simp [h]
  refine ClC.tidy ?_
  refine ClC.fnC w.base (w.fn (ok127 P)) (Bnd.p1 (n1 := "self") w.K (fun S x => by kernel_rfl)) rfl rfl rfl (cl := []) rfl rfl rfl rfl (Binds.go (Exs.go w.base 60 ?_))
  refine Raw.mk ?_
  refine Gat.inst w.K (cls144 P) rfl rfl rfl (f_instream P) rfl ?_
  refine Raw.mk ?_
  refine Met.fnRead rfl rfl rfl rfl rfl ?_
  refine Raw.mk ⟨Kee.ref rfl, ?_⟩
  refine Cl.useUpd1 (n := n + 1) [5, 6, 4] [.cell (some (.ref 1)), .lst (chs cs), .fn (readF P [("signs", 0)])] 1 (.of (by decide) ⟨rfl, by rw [ren_chs]; rfl, rfl, trivial⟩) (c_read (n := n) w hx) rfl rfl rfl (fun _ => rfl) rfl rfl ren_chs ?_
  refine brP.mk (fun hc => ?_) (fun hc => ?_)
  · have hc : cs.head? = some 10 := of_decide_eq_true (hq.symm.trans hc)
    refine Raw.mk ?_
    refine Ex.augAttr (Ev.go (n := n + 1) w.base 60 ?_)
    refine Gat.inst w.K (cls144 P) rfl rfl rfl (f_lineno P) rfl ?_
    refine Ev.go (n := n + 1) w.base 60 ?_
    refine inpP_el (c := cx w.base (n + 1)) ?_
    refine Sat.inst w.K (cls144 P) rfl rfl (t_lineno P) (Nat.le_trans (length_put_le _ _ _) (Nat.le_of_ble_eq_true rfl)) ?_
    exact Tidy.by [] [6, 7] ⟨ren_chs, ren_tks, rfl, by rw [rdN, if_pos hc]; rfl⟩
  · have hc : ¬ cs.head? = some 10 := of_decide_eq_false (hq.symm.trans hc)
    exact Tidy.by [] [6, 7] ⟨ren_chs, ren_tks, rfl, by rw [rdN, if_neg hc, Int.add_zero]; rfl⟩
theorem c_readch (w : Wo W P (glOf P)) {line : Int} {cs : List Nat} {pb : List Str} (hx : cs.length ≤ 1000000) : Cl W (n + 2) (lexL P line cs pb) (.gref 127) [.ref 0] [] [] fun v L => v = .str (rdS cs) ∧ L = lexL P (line + rdN cs) (cs.drop 1) pb := (k_readch w hx).cl
end
end Mine

-- FILE Q15
open PySem PySem.W PyProof.Rows
set_option Elab.async false
set_option autoImplicit false
set_option maxRecDepth 100000
namespace Mine
noncomputable def encA : List (Bool × Nat) → List Nat
  | [] => []
  | (e, p) :: l => (if e then [92, sg p] else [sg p]) ++ encA l
theorem encA_c {e : Bool} {p : Nat} {l : List (Bool × Nat)} : encA ((e, p) :: l) = (if e then [92, sg p] else [sg p]) ++ encA l := rfl
theorem encA_z : encA [] = [] := rfl
noncomputable def tkl (tk : Str) : List (Bool × Nat) → Str
  | [] => tk
  | (_, p) :: l => tkl (tk ++ ⟨#[sg p]⟩) l
noncomputable def nl (p : Nat) : Int := if p = 3 then 1 else 0
noncomputable def lnl (ln : Int) : List (Bool × Nat) → Int
  | [] => ln
  | (_, p) :: l => lnl (ln + nl p) l
noncomputable def okQ (l : List (Bool × Nat)) : Prop := ∀ x ∈ l, x.2 < 4 ∧ (x.1 = false → x.2 = 0 ∨ x.2 = 3)
theorem rd_sg {p : Nat} (h : p < 4) (cs : List Nat) : rdN (sg p :: cs) = nl p := by
  rcases lt4 h with rfl | rfl | rfl | rfl <;> rfl
theorem encA_len : ∀ {l : List (Bool × Nat)}, (encA l).length ≤ 2 * l.length
  | [] => Nat.le_refl _
  | (e, p) :: l => by
    rw [encA_c, List.length_append, List.length_cons]
    have := encA_len (l := l)
    split <;> simp <;> lia
theorem str_len1 {t : Str} {c : Nat} : (t ++ (⟨#[c]⟩ : Str)).length = t.length + 1 := by
  show (t.cps ++ #[c]).size = t.cps.size + 1
  simp
theorem sg_eqQ {p : Nat} (h : p = 0 ∨ p = 3) : ((⟨#[sg p]⟩ : Str).cps.toList == (Str.ofString "\"").cps.toList) = false ∧ ((⟨#[sg p]⟩ : Str).cps.toList == (Str.ofString "\\").cps.toList) = false := by
  rcases h with rfl | rfl <;> decide +kernel
section
variable {W : Wd} {P : Params} {gl : Str → Option Value} {n k : Nat} {H H1 H2 : List AO} {ae : AE} {m : List Nat} {L : List AO}
noncomputable def tokL (P : Params) (line : Int) (cs : List Nat) (pb : List Str) (nsm : List (Str × V)) (it : AO) : List AO := [.inst 144 1, .ns [("lineno", .int line), ("instream", .ref 2), ("whitespace", .str "\n\t\r "), ("pushback", .ref 7)], .fn (strmF P (some 3)), .ns [("read", .ref 4)], .fn (readF P [("signs", 5)]), .cell (some (.ref 6)), .lst (chs cs), .lst (tks pb), .ns nsm, Mine.meth 127 0, it]
theorem lexL_view {line : Int} {cs : List Nat} {pb : List Str} {nsm : List (Str × V)} {it : AO} : View [0, 1, 2, 3, 4, 5, 6, 7] (lexL P line cs pb) (tokL P line cs pb nsm it) :=
  .of (by decide) ⟨rfl, rfl, rfl, rfl, rfl, rfl, by rw [ren_chs]; rfl, by rw [ren_tks]; rfl, trivial⟩
theorem n_tok (w : Wo W P (glOf P)) {line : Int} {cs : List Nat} {pb : List Str} {nsm : List (Str × V)} {Q : Option V → List AO → Prop} (hx : cs.length ≤ 1000000)
    (h1 : ∀ c cs', cs = c :: cs' → Q (some (.str ⟨#[c]⟩)) (tokL P (line + rdN cs) cs' pb nsm (Mine.callIt 9 ""))) (h0 : cs = [] → Q none (tokL P line [] pb nsm Mine.callEnd)) : Nxt W (n + 4) (tokL P line cs pb nsm (Mine.callIt 9 "")) (.ref 10) Q := by
  obtain ⟨o, fd, ho, hfd⟩ : ∃ o fd, W.B.get? 127 = some o ∧ o.data = .func fd := by
    have h : (match (hpK P).lookup 127 with | some ⟨_, _, .func _, _⟩ => true | _ => false) = true := by kernel_rfl
    split at h
    · rename_i c d fd s e
      exact ⟨_, fd, w.K _ _ e, rfl⟩
    · cases h
  refine Nxt.callIt2 (j := 9) (i := 0) (f := 127) (sv := "") rfl rfl ho hfd ?_
  refine ClC.meth (i := 0) (f := 127) rfl ?_
  refine ClC.useUpd2 [0, 1, 2, 3, 4, 5, 6, 7] (lexL P line cs pb) 1 6 (o := .ns [("lineno", .int (line + rdN cs)), ("instream", .ref 2), ("whitespace", .str "\n\t\r "), ("pushback", .ref 7)]) (o2 := .lst (chs (cs.drop 1))) lexL_view (k_readch (n := n) w hx) rfl rfl rfl (fun _ => rfl) rfl rfl rfl rfl ren_chs ?_
  refine ⟨rfl, rfl, _, rfl, fun hne => ?_, fun he => ?_⟩
  · induction cs using List.casesOn with
    | nil => exact absurd rfl hne
    | cons c cs => exact h1 c cs rfl
  · induction cs using List.casesOn with
    | nil =>
      have := h0 rfl
      rw [show line = line + rdN [] from (Int.add_zero _).symm] at this
      exact this
    | cons c cs => exact absurd (congrArg (fun x => x.cps.size) he) (by intro e; exact absurd e (by show ¬ (1 : Nat) = 0; decide))
theorem n_tokc (w : Wo W P (glOf P)) {line : Int} {c : Nat} {cs : List Nat} {pb : List Str} {nsm : List (Str × V)} {Q : Option V → List AO → Prop} (hx : cs.length < 1000000) {l2 : Int} (e : line + rdN (c :: cs) = l2)
    (h : Q (some (.str ⟨#[c]⟩)) (tokL P l2 cs pb nsm (Mine.callIt 9 ""))) : Nxt W (n + 4) (tokL P line (c :: cs) pb nsm (Mine.callIt 9 "")) (.ref 10) Q :=
  n_tok w hx (fun c' cs' q => by rw [List.cons.injEq] at q; obtain ⟨rfl, rfl⟩ := q; rw [e]; exact h) (fun q => absurd q (by simp))
theorem n_tok0 (w : Wo W P (glOf P)) {line : Int} {pb : List Str} {nsm : List (Str × V)} {Q : Option V → List AO → Prop}
    (h : Q none (tokL P line [] pb nsm Mine.callEnd)) : Nxt W (n + 4) (tokL P line [] pb nsm (Mine.callIt 9 "")) (.ref 10) Q :=
  n_tok w (Nat.zero_le _) (fun c' cs' q => absurd q (by simp)) fun _ => h
theorem brP.t {b : Bool} {T F : Prop} (e : b = true) (h : T) : brP b T F := by subst e; exact h
theorem brP.f {b : Bool} {T F : Prop} (e : b = false) (h : F) : brP b T F := by subst e; exact h
theorem rd0 {c : Nat} {cs : List Nat} {line : Int} (h : c ≠ 10) : line + rdN (c :: cs) = line := by
  rw [rdN, List.head?_cons, if_neg (fun e => h (Option.some.inj e)), Int.add_zero]
theorem g_readch (P : Params) : specialIn (hpK P) (.ref 127) "__get__" = some (some (.builtin "function.__get__")) := by kernel_rfl
theorem k_takes (P : Params) : takesIn (hpK P) (.ref 127) = some false := by kernel_rfl
theorem c_tokP (w : Wo W P (glOf P)) {line : Int} {cs : List Nat} {t : Str} {pb : List Str} (hb : pb.length ≤ 1000) : Cl W (n + 2) (lexL P line cs (t :: pb)) (.gref 134) [.ref 0] [] [] fun v L => v = .str t ∧ L = lexL P line cs pb := by
  refine Cl.tidy ?_
  refine Cl.fnC w.base (w.fn (ok134 P)) (Bnd.p1 (n1 := "self") w.K (fun S x => by kernel_rfl)) rfl rfl rfl (cl := []) rfl rfl rfl rfl (Binds.go (Exs.go w.base 60 ?_))
  refine Raw.mk ?_
  refine Gat.inst w.K (cls144 P) rfl rfl rfl (f_pushback P) rfl ?_
  refine gate.mk (decide_eq_true (by rw [tks_len, List.length_cons]; lia)) ?_
  refine Raw.mk ?_
  refine Gat.inst w.K (cls144 P) rfl rfl rfl (f_pushback P) rfl ?_
  refine gate.mk (decide_eq_true (by rw [tks_len, List.length_cons]; lia)) ?_
  exact Tidy.by [] [6, 7] ⟨ren_chs, ren_tks, rfl, rfl⟩
theorem c_push (w : Wo W P (glOf P)) {line : Int} {cs : List Nat} {t : Str} {pb : List Str} (hb : pb.length ≤ 1000) : Cl W (n + 2) (lexL P line cs pb) (.gref 141) [.ref 0, .str t] [] [] fun v L => v = .none ∧ L = lexL P line cs (pb ++ [t]) := by
  refine Cl.tidy ?_
  refine Cl.fnC w.base (w.fn (ok141 P)) (Bnd.p2 (n1 := "self") (n2 := "token") w.K (fun S x y => by kernel_rfl)) rfl rfl rfl (cl := []) rfl rfl rfl rfl (Binds.go (Exs.go w.base 60 ?_))
  refine Raw.mk ?_
  refine Gat.inst w.K (cls144 P) rfl rfl rfl (f_pushback P) rfl ?_
  refine gate.mk (decide_eq_true (by rw [tks_len]; lia)) ?_
  have e : tks pb ++ [.str t] = tks (pb ++ [t]) := by simp [tks]
  exact Tidy.by [] [6, 7] ⟨ren_chs, by rw [e]; exact ren_tks, rfl, by rw [e]; rfl⟩
theorem u_readch (w : Wo W P (glOf P)) {line : Int} {cs : List Nat} {pb : List Str} {nsm : List (Str × V)} {it : AO} {Q : V → List AO → Prop} (hx : cs.length ≤ 1000000)
    (k : Q (.str (rdS cs)) (tokL P (line + rdN cs) (cs.drop 1) pb nsm it)) : Cl W (n + 2) (tokL P line cs pb nsm it) (.gref 127) [.ref 0] [] [] Q :=
  .useUpd2 [0, 1, 2, 3, 4, 5, 6, 7] (lexL P line cs pb) 1 6 (o := .ns [("lineno", .int (line + rdN cs)), ("instream", .ref 2), ("whitespace", .str "\n\t\r "), ("pushback", .ref 7)]) (o2 := .lst (chs (cs.drop 1))) lexL_view (c_readch (n := n) w hx) rfl rfl rfl (fun _ => rfl) rfl rfl rfl rfl ren_chs k

theorem u_readp (w : Wo W P (glOf P)) {line : Int} {p : Nat} {cs : List Nat} {pb : List Str} {nsm : List (Str × V)} {it : AO} {Q : V → List AO → Prop} (hp : p < 4) (hx : cs.length < 1000000)
    (k : Q (.str ⟨#[sg p]⟩) (tokL P (line + nl p) cs pb nsm it)) : Cl W (n + 2) (tokL P line (sg p :: cs) pb nsm it) (.gref 127) [.ref 0] [] [] Q :=
  u_readch w hx (by rw [rd_sg hp]; exact k)
inductive Mode (line : Int) : List Nat → List Nat → Str → Int → Prop where
  | q (at0 : List (Bool × Nat)) (rest : List Nat) : okQ at0 → at0.length ≤ 10 → Mode line (34 :: (encA at0 ++ 34 :: rest)) rest (tkl "" at0) (lnl line at0)
  | b (p0 : Nat) (at0 : List (Bool × Nat)) (rest : List Nat) : p0 < 4 → (∀ x ∈ at0, x.1 = true ∧ x.2 < 4) → at0.length ≤ 10 → Mode line (92 :: sg p0 :: (encA at0 ++ 9 :: rest)) rest (tkl "" ((true, p0) :: at0)) (lnl line ((true, p0) :: at0))
  | e : Mode line [101, 110, 100] [] "end" line
  | z : Mode line [] [] "" line
theorem Mode.len {line L : Int} {cs rest : List Nat} {T : Str} (h : Mode line cs rest T L) (hr : rest.length ≤ 1000) : cs.length ≤ 1100 := by
  cases h with
  | q l _ _ h =>
    have := encA_len (l := l)
    rw [List.length_cons, List.length_append, List.length_cons]; lia
  | b p0 l _ _ _ h =>
    have := encA_len (l := l)
    rw [List.length_cons, List.length_cons, List.length_append, List.length_cons]; lia
  | e => decide
  | z => decide
noncomputable def chO (o : Option Str) : List (Str × V) := match o with | none => [] | some c => [⟨"ch", .str c⟩]
theorem enc_lt {c : Nat} {l : List (Bool × Nat)} {rest : List Nat} (hl : l.length + 1 ≤ 10) (hr : rest.length ≤ 1000) : (encA l ++ c :: rest).length < 999999 := by
  have := encA_len (l := l)
  rw [List.length_append, List.length_cons]; lia
theorem tk_lt {tk : Str} {n p : Nat} (h : tk.length + (n + 1) ≤ 100) : (decide (tk.length + (⟨#[sg p]⟩ : Str).length ≤ 16777216) = true) ∧ (tk ++ (⟨#[sg p]⟩ : Str)).length + n ≤ 100 := by
  rw [str_len1]
  exact ⟨decide_eq_true (by show tk.length + 1 ≤ _; lia), by lia⟩
theorem okQ.tail {x : Bool × Nat} {l : List (Bool × Nat)} (h : okQ (x :: l)) : okQ l := fun y hy => h y (.tail _ hy)
theorem okB.tail {x : Bool × Nat} {l : List (Bool × Nat)} (h : ∀ y ∈ x :: l, y.1 = true ∧ y.2 < 4) : ∀ y ∈ l, y.1 = true ∧ y.2 < 4 := fun y hy => h y (.tail _ hy)
theorem encT {p : Nat} {l : List (Bool × Nat)} {r : List Nat} : encA ((true, p) :: l) ++ r = 92 :: sg p :: (encA l ++ r) := rfl
theorem encF {p : Nat} {l : List (Bool × Nat)} {r : List Nat} : encA ((false, p) :: l) ++ r = sg p :: (encA l ++ r) := rfl
theorem c_tok (w : Wo W P (glOf P)) {line ln : Int} {pre cs rest : List Nat} {T : Str} (hm : Mode line cs rest T ln) (hpre : ∀ x ∈ pre, x = 13) (hpl : pre.length ≤ 10) (hr : rest.length ≤ 1000) :
    Cl W (n + 6) (lexL P line (pre ++ cs) []) (.gref 134) [.ref 0] [] [] fun v L => v = .str T ∧ L = lexL P ln rest [] := by
  have hcl := hm.len hr
  refine Cl.tidy ?_
  refine Cl.fnC w.base (w.fn (ok134 P)) (Bnd.p1 (n1 := "self") w.K (fun S x => by kernel_rfl)) rfl rfl rfl (cl := []) rfl rfl rfl rfl (Binds.go (Exs.go w.base 60 ?_))
  refine Raw.mk ?_
  refine Gat.inst w.K (cls144 P) rfl rfl rfl (f_pushback P) rfl ?_
  refine Raw.mk ?_
  refine Gat.meth w.K (cls144 P) rfl rfl rfl (f_readch P) (y_readch P) (g_readch P) (k_takes P) (by decide +kernel) ?_
  refine Raw.mk ?_
  refine Cl.iter2 rfl ?_
  refine Raw.mk (For.indL (n := n + 5) (fun pre (o : Option Str) (_ _ : Unit) => tokL P line (pre ++ cs) [] (⟨"self", .ref 0⟩ :: ⟨"token", .str ""⟩ :: ⟨"fiter", .ref 10⟩ :: chO o) (Mine.callIt 9 ""))
    (fun pre _ _ _ => pre.length ≤ 10 ∧ (∀ y ∈ pre, y = 13)) (fun o _ _ _ => ?_) (fun x pre o _ _ h ih => ?_) pre none () () ⟨hpl, hpre⟩ rfl)
  · cases hm with
    | q at0 rest ha hal =>
      suffices key : _ from by
        induction o with
        | none =>
          refine For.go (n := n + 5) w.base 60 (Raw.mk ?_)
          refine n_tokc (n := n + 1) w (Nat.lt_of_le_of_lt (Nat.le_trans (Nat.le_succ _) hcl) (by decide)) (rd0 (by decide)) ?_
          exact Raw.mk key
        | some z =>
          refine For.go (n := n + 5) w.base 60 (Raw.mk ?_)
          refine n_tokc (n := n + 1) w (Nat.lt_of_le_of_lt (Nat.le_trans (Nat.le_succ _) hcl) (by decide)) (rd0 (by decide)) ?_
          exact Raw.mk key
      refine Gat.inst w.K (cls144 P) rfl rfl rfl (f_whitespace P) rfl ?_
      refine brP.f (by kernel_rfl) ?_
      refine Raw.mk (For.indL (n := n + 5) (fun (l : List (Bool × Nat)) (tk c : Str) (ln : Int) => tokL P ln (encA l ++ 34 :: rest) [] [⟨"self", .ref 0⟩, ⟨"token", .str tk⟩, ⟨"fiter", .ref 10⟩, ⟨"ch", .str c⟩] (Mine.callIt 9 ""))
        (fun l tk _ ln => l.length ≤ 10 ∧ okQ l ∧ tk.length + l.length ≤ 100 ∧ tkl tk l = tkl "" at0 ∧ lnl ln l = lnl line at0) (fun tk c ln h => ?_) (fun x l tk c ln h ih => ?_) at0 "" _ line ⟨hal, ha, (Nat.le_trans (Nat.le_of_eq (Nat.zero_add _)) (Nat.le_trans hal (by decide))), rfl, rfl⟩ rfl)
      · refine For.go (n := n + 5) w.base 60 (Raw.mk ?_)
        refine n_tokc (n := n + 1) (c := 34) (cs := rest) w (Nat.lt_of_le_of_lt hr (by decide)) (rd0 (by decide)) ?_
        refine Tidy.by [] [6, 7] ?_
        exact ⟨ren_chs, ren_tks, congrArg V.str h.2.2.2.1, by rw [← h.2.2.2.2]; rfl⟩
      · have he := enc_lt (c := 34) h.1 hr
        refine For.goN (n := n + 5) 11 w.base 60 ?_
        obtain ⟨e, p⟩ := x
        induction e with
        | true =>
          rw [encT]
          refine n_tokc (n := n + 1) (c := 92) w (Nat.succ_lt_succ he) (rd0 (by decide)) ?_
          refine Raw.mk ?_
          refine Met.inst w.K (cls144 P) rfl rfl rfl (f_readch P) (y_readch P) ?_
          refine w.call (ok127 P) (u_readp (n := n + 3) w (h.2.1 _ (.head _)).1 (Nat.lt_succ_of_lt he) ?_)
          refine Gate.mk (tk_lt h.2.2.1).1 ?_
          refine TidyS.by [] [6, 7] ?_
          exact ⟨ren_chs, ren_tks, ih (tk ++ ⟨#[sg p]⟩) _ (ln + nl p) ⟨Nat.le_of_succ_le h.1, h.2.1.tail, (tk_lt (p := p) h.2.2.1).2, h.2.2.2.1, h.2.2.2.2⟩⟩
        | false =>
          rw [encF]
          refine n_tokc (n := n + 1) (c := sg p) w (Nat.lt_succ_of_lt he) (l2 := ln + nl p) (by rw [rd_sg (h.2.1 _ (.head _)).1]) ?_
          refine brP.f (sg_eqQ ((h.2.1 _ (.head _)).2 rfl)).1 (brP.f (sg_eqQ ((h.2.1 _ (.head _)).2 rfl)).2 ?_)
          refine Gate.mk (tk_lt h.2.2.1).1 ?_
          refine TidyS.by [] [6, 7] ?_
          exact ⟨ren_chs, ren_tks, ih (tk ++ ⟨#[sg p]⟩) _ (ln + nl p) ⟨Nat.le_of_succ_le h.1, h.2.1.tail, (tk_lt (p := p) h.2.2.1).2, h.2.2.2.1, h.2.2.2.2⟩⟩
    | b p0 at0 rest hp0 ha hal =>
      suffices key : _ from by
        induction o with
        | none =>
          refine For.go (n := n + 5) w.base 60 (Raw.mk ?_)
          refine n_tokc (n := n + 1) w (Nat.lt_of_le_of_lt (Nat.le_trans (Nat.le_succ _) hcl) (by decide)) (rd0 (by decide)) ?_
          exact Raw.mk key
        | some z =>
          refine For.go (n := n + 5) w.base 60 (Raw.mk ?_)
          refine n_tokc (n := n + 1) w (Nat.lt_of_le_of_lt (Nat.le_trans (Nat.le_succ _) hcl) (by decide)) (rd0 (by decide)) ?_
          exact Raw.mk key
      refine Gat.inst w.K (cls144 P) rfl rfl rfl (f_whitespace P) rfl ?_
      refine brP.f (by kernel_rfl) ?_
      refine Raw.mk ?_
      refine Met.inst w.K (cls144 P) rfl rfl rfl (f_readch P) (y_readch P) ?_
      refine w.call (ok127 P) (u_readp (n := n + 3) w hp0 (Nat.lt_of_le_of_lt (Nat.le_trans (Nat.le_add_right _ 2) hcl) (by decide)) ?_)
      refine Gate.mk (by kernel_rfl) ?_
      refine Raw.mk (For.indL (n := n + 5) (fun (l : List (Bool × Nat)) (tk c : Str) (ln : Int) => tokL P ln (encA l ++ 9 :: rest) [] [⟨"self", .ref 0⟩, ⟨"token", .str tk⟩, ⟨"fiter", .ref 10⟩, ⟨"ch", .str c⟩] (Mine.callIt 9 ""))
        (fun l tk _ ln => l.length ≤ 10 ∧ (∀ y ∈ l, y.1 = true ∧ y.2 < 4) ∧ tk.length + l.length ≤ 100 ∧ tkl tk l = tkl "" ((true, p0) :: at0) ∧ lnl ln l = lnl line ((true, p0) :: at0)) (fun tk c ln h => ?_) (fun x l tk c ln h ih => ?_) at0 (Str.ofString "" ++ ⟨#[sg p0]⟩) _ (line + nl p0) ⟨hal, ha, Nat.le_trans (Nat.add_le_add_left hal 1) (by decide), rfl, rfl⟩ rfl)
      · refine For.go (n := n + 5) w.base 60 (Raw.mk ?_)
        refine n_tokc (n := n + 1) (c := 9) (cs := rest) w (Nat.lt_of_le_of_lt hr (by decide)) (rd0 (by decide)) ?_
        refine Raw.mk ?_
        refine Gat.inst w.K (cls144 P) rfl rfl rfl (f_whitespace P) rfl ?_
        refine brP.t (by kernel_rfl) ?_
        refine Tidy.by [] [6, 7] ?_
        exact ⟨ren_chs, ren_tks, congrArg V.str h.2.2.2.1, by rw [← h.2.2.2.2]; rfl⟩
      · have he := enc_lt (c := 9) h.1 hr
        refine For.goN (n := n + 5) 11 w.base 60 ?_
        obtain ⟨e, p⟩ := x
        induction e with
        | false => exact Bool.noConfusion (h.2.1 _ (.head _)).1
        | true =>
          rw [encT]
          refine n_tokc (n := n + 1) (c := 92) w (Nat.succ_lt_succ he) (rd0 (by decide)) ?_
          refine Raw.mk ?_
          refine Gat.inst w.K (cls144 P) rfl rfl rfl (f_whitespace P) rfl ?_
          refine brP.f (by kernel_rfl) ?_
          refine Raw.mk ?_
          refine Met.inst w.K (cls144 P) rfl rfl rfl (f_readch P) (y_readch P) ?_
          refine w.call (ok127 P) (u_readp (n := n + 3) w (h.2.1 _ (.head _)).2 (Nat.lt_succ_of_lt he) ?_)
          refine Gate.mk (tk_lt h.2.2.1).1 ?_
          refine TidyS.by [] [6, 7] ?_
          exact ⟨ren_chs, ren_tks, ih (tk ++ ⟨#[sg p]⟩) _ (ln + nl p) ⟨Nat.le_of_succ_le h.1, okB.tail h.2.1, (tk_lt (p := p) h.2.2.1).2, h.2.2.2.1, h.2.2.2.2⟩⟩
    | e =>
      suffices key : _ from by
        induction o with
        | none =>
          refine For.go (n := n + 5) w.base 60 (Raw.mk ?_)
          refine n_tokc (n := n + 1) w (by decide) (rd0 (by decide)) ?_
          exact Raw.mk key
        | some z =>
          refine For.go (n := n + 5) w.base 60 (Raw.mk ?_)
          refine n_tokc (n := n + 1) w (by decide) (rd0 (by decide)) ?_
          exact Raw.mk key
      refine Gat.inst w.K (cls144 P) rfl rfl rfl (f_whitespace P) rfl ?_
      refine brP.f (by kernel_rfl) ?_
      refine Gate.mk (by kernel_rfl) ?_
      refine Raw.mk (For.go (n := n + 5) w.base 60 (Raw.mk ?_))
      refine n_tokc (n := n + 1) (c := 110) (cs := [100]) w (by decide) (rd0 (by decide)) ?_
      refine Raw.mk ?_
      refine Gat.inst w.K (cls144 P) rfl rfl rfl (f_whitespace P) rfl ?_
      refine brP.f (by kernel_rfl) ?_
      refine Gate.mk (by kernel_rfl) ?_
      refine Raw.mk (For.go (n := n + 5) w.base 60 (Raw.mk ?_))
      refine n_tokc (n := n + 1) (c := 100) (cs := []) w (by decide) (rd0 (by decide)) ?_
      refine Raw.mk ?_
      refine Gat.inst w.K (cls144 P) rfl rfl rfl (f_whitespace P) rfl ?_
      refine brP.f (by kernel_rfl) ?_
      refine Gate.mk (by kernel_rfl) ?_
      refine Raw.mk (For.go (n := n + 5) w.base 60 (Raw.mk ?_))
      refine n_tok0 (n := n + 1) w ?_
      refine Raw.mk (For.go (n := n + 5) w.base 60 (Raw.mk (Nxt.callEnd rfl ?_)))
      refine Tidy.by [] [6, 7] ?_
      exact ⟨ren_chs, ren_tks, rfl, rfl⟩
    | z =>
      induction o with
      | none =>
        refine For.go (n := n + 5) w.base 60 (Raw.mk ?_)
        refine n_tok0 (n := n + 1) w ?_
        exact Tidy.by [] [6, 7] ⟨ren_chs, ren_tks, rfl, rfl⟩
      | some z =>
        refine For.go (n := n + 5) w.base 60 (Raw.mk ?_)
        refine n_tok0 (n := n + 1) w ?_
        exact Tidy.by [] [6, 7] ⟨ren_chs, ren_tks, rfl, rfl⟩
  · have hx : x = 13 := h.2 x (.head _)
    refine For.goN (n := n + 5) 11 w.base 60 ?_
    refine n_tokc (n := n + 1) w (Nat.lt_of_le_of_lt (Nat.le_of_eq List.length_append) (by have := h.1; rw [List.length_cons] at this; lia)) (rd0 (by rw [hx]; decide)) ?_
    suffices key : _ from by
      induction o with
      | none => exact Raw.mk key
      | some z => exact Raw.mk key
    refine Gat.inst w.K (cls144 P) rfl rfl rfl (f_whitespace P) rfl ?_
    refine brP.t (by rw [hx]; kernel_rfl) ?_
    refine TidyS.by [] [6, 7] ?_
    exact ⟨ren_chs, ren_tks, ih (some _) () () ⟨Nat.le_of_succ_le h.1, fun x hx => h.2 x (.tail _ hx)⟩⟩
end
end Mine

-- FILE U1
open PySem PySem.W PyProof.Rows
set_option Elab.async false
set_option autoImplicit false
set_option maxRecDepth 100000
set_option pp.deepTerms.threshold 8
set_option pp.maxSteps 3000
namespace Mine
noncomputable def nearV (p : UInt64) (u : Int) : Option Int := if Float64.isInf (Float64.ofInt u) then none else match Float64.decode (Float64.add (Float64.mul (Float64.mul p (Float64.ofInt u)) (Float64.ofInt (2 ^ 20))) 4602678819172646912) with
  | .fin sg m e => some (Float64.truncOf sg m e)
  | _ => none
noncomputable def W3.neg (w : W3) : W3 := (3 - w.1, 3 - w.2.1, 3 - w.2.2)
noncomputable def hlsW (w : W3) : UInt64 × UInt64 × UInt64 := hls (fl w.1) (fl w.2.1) (fl w.2.2)
noncomputable def hsvW (w : W3) : UInt64 × UInt64 × UInt64 := hsv (fl w.1) (fl w.2.1) (fl w.2.2)
noncomputable def hueGe (w : W3) : Bool := (cmpF .GtE (hlsW w).1 4602678819172646912).getD false
noncomputable def cn (w : W3) : W3 := if hueGe w then w.neg else w
noncomputable def topI (w : W3) : Int := Mine.max3 w.1 w.2.1 w.2.2
noncomputable def lowI (w : W3) : Int := Mine.min3 w.1 w.2.1 w.2.2
noncomputable def min2I (a b : Int) : Int := if b < a then b else a
noncomputable def max2I (a b : Int) : Int := if b > a then b else a
structure Hues (w : W3) : Prop where
  n1 : nearV (hlsW w).2.1 8 = some ((topI w + lowI w) * (2 : Int) ^ (20 : Int).toNat)
  n2 : nearV (hlsW w).2.2 (max2I 1 (min2I (topI w + lowI w) (8 - topI w - lowI w))) = some ((topI w - lowI w) * (2 : Int) ^ (20 : Int).toNat)
  n3 : nearV (hsvW w).2.1 (max2I 1 (topI w)) = some ((topI w - lowI w) * (2 : Int) ^ (20 : Int).toNat)
  n4 : nearV (hsvW w).2.2 4 = some (topI w * (2 : Int) ^ (20 : Int).toNat)
  eq : eqF (hlsW w).1 (hsvW w).1 = true
  up : hueGe w = decide (w.2.1 < w.2.2 ∨ (w.2.1 = w.2.2 ∧ w.1 < w.2.2))
  tl : 0 ≤ topI w ∧ topI w ≤ 3 ∧ 0 ≤ lowI w ∧ lowI w ≤ 3
noncomputable def hues_dec (w : W3) : Decidable (Hues w) := decidable_of_iff (nearV (hlsW w).2.1 8 = some ((topI w + lowI w) * (2 : Int) ^ (20 : Int).toNat) ∧ nearV (hlsW w).2.2 (max2I 1 (min2I (topI w + lowI w) (8 - topI w - lowI w))) = some ((topI w - lowI w) * (2 : Int) ^ (20 : Int).toNat) ∧
    nearV (hsvW w).2.1 (max2I 1 (topI w)) = some ((topI w - lowI w) * (2 : Int) ^ (20 : Int).toNat) ∧ nearV (hsvW w).2.2 4 = some (topI w * (2 : Int) ^ (20 : Int).toNat) ∧ eqF (hlsW w).1 (hsvW w).1 = true ∧ hueGe w = decide (w.2.1 < w.2.2 ∨ (w.2.1 = w.2.2 ∧ w.1 < w.2.2)) ∧ (0 ≤ topI w ∧ topI w ≤ 3 ∧ 0 ≤ lowI w ∧ lowI w ≤ 3))
  ⟨fun ⟨a, b, c, d, e, f, g⟩ => ⟨a, b, c, d, e, f, g⟩, fun ⟨a, b, c, d, e, f, g⟩ => ⟨a, b, c, d, e, f, g⟩⟩
theorem hues {w : W3} (h : w.ok) : Hues w := by
  obtain ⟨p, q, r⟩ := w
  exact @all64 (fun p q r => Hues (p, q, r)) (fun p q r => hues_dec (p, q, r)) (by decide +kernel) _ _ _ h.1 h.2.1 h.2.2
theorem cn_ok {w : W3} (h : w.ok) : (cn w).ok := by
  unfold cn
  obtain ⟨h1, h2, h3⟩ := h
  split
  · exact ⟨by show 3 - _ < 4; omega, by show 3 - _ < 4; omega, by show 3 - _ < 4; omega⟩
  · exact ⟨h1, h2, h3⟩
section
variable {W : Wd} {P : Params} {gl : Str → Option Value} {n k : Nat} {H H1 H2 : List AO} {ae : AE} {m : List Nat} {L : List AO}
theorem u_nearV (w : Wo W P (glOf P)) {p : UInt64} {u z : Int} {Q : V → List AO → Prop} (h : nearV p u = some z) (k : Q (.int z) H) : Cl W (n + 1) H (.gref 184) [.flt p, .int u] [] [] Q := by
  unfold nearV at h
  split at h
  · cases h
  · rename_i hi
    split at h
    · rename_i sg m e hd
      cases h
      exact u_near w (sg := sg) (m := m) (e := e) ⟨by simpa using hi, hd⟩ k
    · cases h
end
theorem bneF {a b : UInt64} (h : eqF a b = true) : (Float64.cmp a b != some Ordering.eq) = false := by
  unfold eqF at h
  rw [bne, h]; rfl
theorem cn_t {w : W3} (h : hueGe w = true) : (cn w).str = wd (3 - w.1) (3 - w.2.1) (3 - w.2.2) := by rw [cn, if_pos h]; rfl
theorem cn_f {w : W3} (h : hueGe w = false) : (cn w).str = w.str := by rw [cn, if_neg (by rw [h]; decide)]
noncomputable def insX (late : Bool) (R : List W3) (c : W3) : List W3 := if late then insAt R (posL R c) c else insAt R (posR R c) c
theorem insX_len {late : Bool} {R : List W3} {c : W3} : (insX late R c).length = R.length + 1 := by
  unfold insX insAt
  split <;> simp only [List.length_append, List.length_take, List.length_cons, List.length_drop]
  · have := bisL_le (x := c.hue) (ks := R.map W3.hue) (f := R.length + 1) (lo := 0) (hi := R.length) (Nat.zero_le _)
    unfold posL; lia
  · have := bisR_le (x := c.hue) (ks := R.map W3.hue) (f := R.length + 1) (lo := 0) (hi := R.length) (Nat.zero_le _)
    unfold posR; lia
theorem insX_ok {late : Bool} {R : List W3} {c : W3} (hR : ∀ w ∈ R, w.ok) (hc : c.ok) : ∀ w ∈ insX late R c, w.ok := by
  have key : ∀ k, ∀ w ∈ insAt R k c, w.ok := fun k w hw => by
    unfold insAt at hw
    rcases List.mem_append.mp hw with h | h
    · exact hR w (List.mem_of_mem_take h)
    · rcases List.mem_cons.mp h with h | h
      · rw [h]; exact hc
      · exact hR w (List.mem_of_mem_drop h)
  unfold insX
  split <;> exact key _
noncomputable def wayW (w : W3) : Int := way ((w.1 : Int) - w.2.2) ((w.2.1 : Int) - w.2.2)
noncomputable def keyW (w : W3) (k : Int) (late : Nat) : Int := 8 * wayW w + k * (1 - 2 * (late : Int))
noncomputable def rowX (late : Nat) (c0 c1 c2 c3 : W3) : List W3 := insX (decide (late = 1)) (insX (decide (late = 1)) (insX (decide (late = 1)) (insX (decide (late = 1)) [] c0) c1) c2) c3
noncomputable def nlw (x : W3) : Int := nl x.1 + nl x.2.1 + nl x.2.2
noncomputable def post (v : Nat) : List Nat := if v = 2 then [13] else []
noncomputable def atom (p : Nat) : Bool × Nat := (!decide (p = 0 ∨ p = 3), p)
theorem nL_atom {p : Nat} {l : List (Bool × Nat)} : encA (atom p :: l) = nL p ++ encA l := by
  unfold atom nL escL
  rw [encA_c]
  by_cases h : p = 0 ∨ p = 3
  · rw [decide_eq_true h, if_pos h]; rfl
  · rw [decide_eq_false h, if_neg h]; rfl
theorem post_13 {v : Nat} : (∀ x ∈ post v, x = 13) ∧ (post v).length ≤ 1 := by
  unfold post; split <;> simp

noncomputable def hueTab (y : Int) : UInt64 := if y = -99 then 0 else if y = -36 then 4588167220373341981 else if y = -24 then 4590669220166325589 else if y = -18 then 4592670820000712477 else if y = -12 then 4595172819793696085 else if y = -8 then 4597174419628082973 else
  if y = -6 then 4598175219545276416 else if y = -4 then 4598675619503873137 else if y = 0 then 4599676419421066581 else if y = 6 then 4600677219338260025 else if y = 12 then 4601177619296856747 else 4601678019255453468
noncomputable def wayL : List Int := [-99, -36, -24, -18, -12, -8, -6, -4, 0, 6, 12, 24]
theorem hue_tab {w : W3} (h : w.ok) : (cn w).hue = hueTab (wayW (cn w)) := by
  obtain ⟨p, q, r⟩ := w
  exact all64 (φ := fun p q r => (cn (p, q, r)).hue = hueTab (wayW (cn (p, q, r)))) (by decide +kernel) h.1 h.2.1 h.2.2
theorem way_mem {w : W3} (h : w.ok) : wayW (cn w) ∈ wayL := by
  obtain ⟨p, q, r⟩ := w
  exact all64 (φ := fun p q r => wayW (cn (p, q, r)) ∈ wayL) (by decide +kernel) h.1 h.2.1 h.2.2
theorem tab_lt : ∀ a ∈ wayL, ∀ b ∈ wayL, ltF (hueTab a) (hueTab b) = decide (a < b) := by decide +kernel
noncomputable def Cn (c : W3) : Prop := ∃ w : W3, w.ok ∧ c = cn w
theorem ltF_way {a b : W3} (ha : Cn a) (hb : Cn b) : ltF a.hue b.hue = decide (wayW a < wayW b) := by
  obtain ⟨u, hu, rfl⟩ := ha
  obtain ⟨v, hv, rfl⟩ := hb
  rw [hue_tab hu, hue_tab hv]
  exact tab_lt _ (way_mem hu) _ (way_mem hv)
theorem bisR_spec {x : UInt64} {ks : List UInt64} {N : Nat} (mono : ∀ i j, i ≤ j → j < N → ltF x (ks.getD i 0) = true → ltF x (ks.getD j 0) = true) :
    ∀ (f lo hi : Nat), lo ≤ hi → hi ≤ N → hi - lo < f → (∀ i, i < lo → ltF x (ks.getD i 0) = false) → (∀ i, hi ≤ i → i < N → ltF x (ks.getD i 0) = true) →
    bisR x ks f lo hi ≤ N ∧ (∀ i, i < bisR x ks f lo hi → ltF x (ks.getD i 0) = false) ∧ (∀ i, bisR x ks f lo hi ≤ i → i < N → ltF x (ks.getD i 0) = true)
  | 0, lo, hi, _, _, h3, _, _ => by lia
  | f + 1, lo, hi, h1, h2, h3, h4, h5 => by
    rw [bisR_c]
    by_cases h : lo < hi
    · rw [if_pos h]
      cases hm : ltF x (ks.getD ((lo + hi) / 2) 0) with
      | true =>
        rw [if_pos rfl]
        exact bisR_spec mono f lo _ (by lia) (by lia) (by lia) h4 fun i hi' hN => mono _ i hi' hN hm
      | false =>
        rw [if_neg (by decide)]
        refine bisR_spec mono f _ hi (by lia) h2 (by lia) (fun i hi' => ?_) h5
        cases hi2 : ltF x (ks.getD i 0) with
        | false => rfl
        | true =>
          have := mono i ((lo + hi) / 2) (by lia) (by lia) hi2
          rw [hm] at this; cases this
    · rw [if_neg h]
      have : lo = hi := by lia
      subst this
      exact ⟨h2, h4, h5⟩
theorem bisL_spec {x : UInt64} {ks : List UInt64} {N : Nat} (mono : ∀ i j, i ≤ j → j < N → ltF (ks.getD j 0) x = true → ltF (ks.getD i 0) x = true) :
    ∀ (f lo hi : Nat), lo ≤ hi → hi ≤ N → hi - lo < f → (∀ i, i < lo → ltF (ks.getD i 0) x = true) → (∀ i, hi ≤ i → i < N → ltF (ks.getD i 0) x = false) →
    bisL x ks f lo hi ≤ N ∧ (∀ i, i < bisL x ks f lo hi → ltF (ks.getD i 0) x = true) ∧ (∀ i, bisL x ks f lo hi ≤ i → i < N → ltF (ks.getD i 0) x = false)
  | 0, lo, hi, _, _, h3, _, _ => by lia
  | f + 1, lo, hi, h1, h2, h3, h4, h5 => by
    rw [bisL_c]
    by_cases h : lo < hi
    · rw [if_pos h]
      cases hm : ltF (ks.getD ((lo + hi) / 2) 0) x with
      | true =>
        rw [if_pos rfl]
        exact bisL_spec mono f _ hi (by lia) h2 (by lia) (fun i hi' => mono i _ (by lia) (by lia) hm) h5
      | false =>
        rw [if_neg (by decide)]
        refine bisL_spec mono f lo _ (by lia) (by lia) (by lia) h4 fun i hi' hN => ?_
        cases hi2 : ltF (ks.getD i 0) x with
        | false => rfl
        | true =>
          have := mono ((lo + hi) / 2) i hi' hN hi2
          rw [hm] at this; cases this
    · rw [if_neg h]
      have : lo = hi := by lia
      subst this
      exact ⟨h2, h4, h5⟩
noncomputable abbrev Tr := W3 × Nat
noncomputable def Tr.key (late : Nat) (e : Tr) : Int := keyW e.1 (e.2 : Nat) late
noncomputable def Tr.lt (late : Nat) (a b : Tr) : Prop := a.key late < b.key late
theorem key_way {late : Nat} (hl : late < 2) {a b : Tr} (ha : a.2 ≤ 3) (hb : b.2 ≤ 3) (h : a.key late < b.key late) : wayW a.1 ≤ wayW b.1 := by
  unfold Tr.key keyW at h
  obtain rfl | rfl : late = 0 ∨ late = 1 := by lia
  · simp at h; lia
  · simp at h; lia
theorem ins_step {late : Nat} (hl : late < 2) {T : List Tr} {c : W3} {j : Nat} (hj : j ≤ 3) (hc : Cn c) (hT : ∀ e ∈ T, Cn e.1 ∧ e.2 < j) (hp : T.Pairwise (Tr.lt late)) :
    ∃ T' : List Tr, insX (decide (late = 1)) (T.map (·.1)) c = T'.map (·.1) ∧ T'.Pairwise (Tr.lt late) ∧ T'.Perm ((c, j) :: T) := by
  have hue_at : ∀ i (h : i < T.length), ((T.map (·.1)).map W3.hue).getD i 0 = (T[i]).1.hue := fun i h => by
    simp [List.getD_eq_getElem?_getD, List.getElem?_eq_getElem h]
  have pw : ∀ i k (hi : i < T.length) (hk : k < T.length), i ≤ k → wayW (T[i]).1 ≤ wayW (T[k]).1 := fun i k hi hk h => by
    rcases Nat.lt_or_eq_of_le h with h | h
    · exact key_way hl (by have := (hT _ (List.getElem_mem hi)).2; lia) (by have := (hT _ (List.getElem_mem hk)).2; lia) (List.pairwise_iff_getElem.mp hp i k hi hk h)
    · subst h; exact Int.le_refl _
  have fin : ∀ r, r ≤ T.length → (∀ i (h : i < T.length), i < r → Tr.lt late T[i] (c, j)) → (∀ i (h : i < T.length), r ≤ i → Tr.lt late (c, j) T[i]) →
      ∃ T' : List Tr, insAt (T.map (·.1)) r c = T'.map (·.1) ∧ T'.Pairwise (Tr.lt late) ∧ T'.Perm ((c, j) :: T) := fun r hr h1 h2 => by
    refine ⟨T.take r ++ (c, j) :: T.drop r, ?_, ?_, ?_⟩
    · simp [insAt, List.map_take, List.map_drop]
    · have hpp := hp
      rw [← List.take_append_drop r T, List.pairwise_append] at hpp
      obtain ⟨p1, p2, p3⟩ := hpp
      have a1 : ∀ a ∈ T.take r, Tr.lt late a (c, j) := fun a ha => by
        obtain ⟨i, hi, e⟩ := List.getElem_of_mem ha
        rw [List.length_take] at hi
        rw [List.getElem_take] at e
        rw [← e]
        exact h1 i (by lia) (by lia)
      have a2 : ∀ b ∈ T.drop r, Tr.lt late (c, j) b := fun b hb => by
        obtain ⟨i, hi, e⟩ := List.getElem_of_mem hb
        rw [List.length_drop] at hi
        rw [List.getElem_drop] at e
        rw [← e]
        exact h2 _ (by lia) (by lia)
      rw [List.pairwise_append]
      refine ⟨p1, List.pairwise_cons.mpr ⟨a2, p2⟩, fun a ha b hb => ?_⟩
      rcases List.mem_cons.mp hb with rfl | hb
      · exact a1 a ha
      · exact p3 a ha b hb
    · refine List.perm_middle.trans ?_
      rw [List.take_append_drop]
  have hlen : (T.map (·.1)).length = T.length := by simp
  obtain rfl | rfl : late = 0 ∨ late = 1 := by lia
  · rw [show insX (decide (0 = 1)) (T.map (·.1)) c = insAt (T.map (·.1)) (posR (T.map (·.1)) c) c from rfl]
    have hm : ∀ i (h : i < T.length), ltF c.hue (((T.map (·.1)).map W3.hue).getD i 0) = decide (wayW c < wayW (T[i]).1) := fun i h => by
      rw [hue_at i h]; exact ltF_way hc (hT _ (List.getElem_mem h)).1
    obtain ⟨s1, s2, s3⟩ := bisR_spec (x := c.hue) (ks := (T.map (·.1)).map W3.hue) (N := T.length) (fun i k h hk e => by
      rw [hm i (by lia)] at e
      rw [hm k hk]
      have := pw i k (by lia) hk h
      have := of_decide_eq_true e
      exact decide_eq_true (by lia)) (T.length + 1) 0 T.length (Nat.zero_le _) (Nat.le_refl _) (by lia) (fun i h => by lia) (fun i h1 h2 => by lia)
    unfold posR
    rw [hlen]
    refine fin _ s1 (fun i h hr => ?_) (fun i h hr => ?_)
    · have := s2 i hr
      rw [hm i h] at this
      have := of_decide_eq_false this
      have hji := (hT _ (List.getElem_mem h)).2
      unfold Tr.lt Tr.key keyW
      simp
      lia
    · have := s3 i hr h
      rw [hm i h] at this
      have := of_decide_eq_true this
      have hji := (hT _ (List.getElem_mem h)).2
      unfold Tr.lt Tr.key keyW
      simp
      lia
  · rw [show insX (decide (1 = 1)) (T.map (·.1)) c = insAt (T.map (·.1)) (posL (T.map (·.1)) c) c from rfl]
    have hm : ∀ i (h : i < T.length), ltF (((T.map (·.1)).map W3.hue).getD i 0) c.hue = decide (wayW (T[i]).1 < wayW c) := fun i h => by
      rw [hue_at i h]; exact ltF_way (hT _ (List.getElem_mem h)).1 hc
    obtain ⟨s1, s2, s3⟩ := bisL_spec (x := c.hue) (ks := (T.map (·.1)).map W3.hue) (N := T.length) (fun i k h hk e => by
      rw [hm k hk] at e
      rw [hm i (by lia)]
      have := pw i k (by lia) hk h
      have := of_decide_eq_true e
      exact decide_eq_true (by lia)) (T.length + 1) 0 T.length (Nat.zero_le _) (Nat.le_refl _) (by lia) (fun i h => by lia) (fun i h1 h2 => by lia)
    unfold posL
    rw [hlen]
    refine fin _ s1 (fun i h hr => ?_) (fun i h hr => ?_)
    · have := s2 i hr
      rw [hm i h] at this
      have := of_decide_eq_true this
      have hji := (hT _ (List.getElem_mem h)).2
      unfold Tr.lt Tr.key keyW
      simp
      lia
    · have := s3 i hr h
      rw [hm i h] at this
      have := of_decide_eq_false this
      have hji := (hT _ (List.getElem_mem h)).2
      unfold Tr.lt Tr.key keyW
      simp
      lia
end Mine

-- FILE X1
open PySem PySem.W PyProof.Rows
set_option Elab.async false
set_option autoImplicit false
set_option maxRecDepth 100000
namespace Mine
theorem ok217 (P : Params) : fnOk P 217 = true := by kernel_rfl
noncomputable def lawNm (P : Params) : List (Str × NameKind) := (ci P 217).scope.names
noncomputable def lawEx (P : Params) : List (Str × Const) := (ci P 217).scope.more
noncomputable def lawB (P : Params) : List Stmt := match (ci P 217).body with | .stmts b => b | _ => []
noncomputable def lawAE (P : Params) : AE := frm (lawNm P) (lawEx P) ((ci P 217).qual ++ ".<locals>.") (ci P 217).code 1 [("steps", 7), ("lexer", 6), ("words", 5), ("signs", 4), ("totals", 3), ("script", 2)]
noncomputable def lawQ (fl : Fl) (_ : List AO) : Prop := (match fl with | .ret v => v | _ => .none) = .bool true
theorem law_scope (P : Params) : (ci P 217).scope = ⟨.function, lawNm P, false, false, lawEx P⟩ := by kernel_rfl
theorem law_body (P : Params) : (ci P 217).body = .stmts (lawB P) := by kernel_rfl
theorem law_lay (P : Params) (o : AO) : layC (lawNm P) [] [o, .ns []] = (([("steps", 7), ("lexer", 6), ("words", 5), ("signs", 4), ("totals", 3), ("script", 2)] : List (Str × Nat)), [o, .ns [], .cell none, .cell none, .cell none, .cell none, .cell none, .cell none]) := by kernel_rfl
noncomputable def segF (Q : Fl → List AO → Prop) (A : List AO → Prop) (f : Fl) (H : List AO) : Prop := match f with | .next => A H | f => Q f H
section
variable {W : Wd} {P : Params} {n : Nat} {H : List AO} {ae : AE}
theorem execs_app {env : Env} {b : List Stmt} : ∀ {a : List Stmt}, execs (a ++ b) env = (do match ← execs a env with | .next => execs b env | f => pure f)
  | [] => by show execs b env = (pure Flow.next >>= _); rw [pure_bind]
  | s :: a => by
    show (exec s env >>= _) = ((exec s env >>= _) >>= _)
    rw [bind_assoc]
    congr 1
    funext f
    induction f with
    | next => exact execs_app
    | brk => exact (pure_bind _ _).symm
    | cont => exact (pure_bind _ _).symm
    | ret v => exact (pure_bind _ _).symm
theorem Exs.append {a b : List Stmt} {Q : Fl → List AO → Prop} (h : Exs W n ae H a (segF Q fun H1 => Exs W n ae H1 b Q)) : Exs W n ae H (a ++ b) Q := fun ρ env E => by
  rw [execs_app]
  refine Tri.bind (h ρ env E) fun ρ1 H1 f l1 ⟨fl, hf, k⟩ => ?_
  induction fl with
  | next => cases hf; exact k ρ1 env (E.mono l1)
  | brk => cases hf; exact .pur ⟨.brk, rfl, k⟩
  | cont => cases hf; exact .pur ⟨.cont, rfl, k⟩
  | ret v => obtain ⟨y, rfl, r⟩ := hf; exact .pur ⟨.ret v, ⟨y, rfl, r⟩, k⟩
/-- statements k up to k + j of the law, garbage dropped behind them -/
theorem law_seg (k j N : Nat) (hB : Base W (glOf P)) (hN : H.length = N) (h : wp 60 (.exs H (((lawB P).drop k).take j) finK) (rd hB n (lawAE P) (TidyS N (segF lawQ fun H1 => Exs W n (lawAE P) H1 ((lawB P).drop (k + j)) lawQ)))) : Exs W n (lawAE P) H ((lawB P).drop k) lawQ := by
  subst hN
  have := Exs.append (Q := lawQ) (Exs.tidy (Exs.go hB 60 h))
  rw [← List.drop_drop, List.take_append_drop] at this
  exact this
end
end Mine

-- FILE X2
open PySem PySem.W PyProof.Rows
set_option Elab.async false
set_option autoImplicit false
set_option maxRecDepth 100000
namespace Mine
noncomputable def pickI (vs : List Int) (lo hi st : Option Int) : List Int := (sliceRange (sliceBounds lo hi st vs.length).1 (sliceBounds lo hi st vs.length).2.1 (sliceBounds lo hi st vs.length).2.2).filterMap (vs[·]?)
theorem pick_ints {us : List Int} {lo hi st : Option Int} : pickV (us.map V.int) lo hi st = (pickI us lo hi st).map V.int := by
  unfold pickV pickI
  rw [List.length_map, List.map_filterMap]
  simp only [List.getElem?_map]

section
variable {W : Wd} {P : Params} {n k : Nat} {H H1 H2 : List AO} {ae : AE} {m : List Nat} {L : List AO}
noncomputable def tt (x : Int) : Nat := (x.fmod 384).toNat
theorem tt_lt {x : Int} : tt x < 384 := by
  unfold tt
  rw [Int.fmod_eq_emod_of_nonneg _ (by decide)]
  have h2 := Int.emod_lt_of_pos x (b := 384) (by decide)
  lia
theorem tt_eq {x : Int} : x.fmod 384 = (tt x : Int) := by
  unfold tt
  rw [Int.fmod_eq_emod_of_nonneg _ (by decide)]
  have h1 := Int.emod_nonneg x (b := 384) (by decide)
  lia
/-- the script: a list of the caller's, which nobody changes -/
noncomputable def ScriptAt (W : Wd) (L : Addr) (us : List Int) : Prop := ∃ o xs m, W.B.get? L = some o ∧ o.cls = .type "list" ∧ o.data = .seq xs m ∧ VL [] (us.map V.int) xs.toList
theorem GiP.glst {pa : Addr} {o : Obj} (ho : W.B.get? pa = some o) (hc : o.cls = .type "list") : GiP W n H (.gref pa) := fun ρ x e A s r hs g => by
  have e : x = .ref pa := e
  subst e
  unfold getitemInPython
  exact wpAny_bind (wpAny_specialOf (T := "list") ⟨_, hs.keep _ _ ho, hc⟩ slot_list_getitem.lookup (wpAny_pure ⟨ρ, H, .refl hs, rfl, rfl, rfl⟩))
theorem Git.gslice {pa : Addr} {us : List Int} {j : Nat} {a b c : V} {lo hi st : Option Int} {Q : V → List AO → Prop} (ho : ScriptAt W pa us) (hj : H[j]? = some (.flds "slice" [a, b, c])) (ha : IsPartV a lo) (hb : IsPartV b hi) (hc : IsPartV c st) (h0 : st ≠ some 0) (hz : us.length ≤ 1000000)
    (h : Q (.ref H.length) (H ++ [.lst ((pickI us lo hi st).map V.int)])) : GiP W n H (.gref pa) ∧ Git W n H (.gref pa) (.ref j) Q := by
  obtain ⟨o, xs, m, hx0, hc0, hd0, hxs0⟩ := ho
  refine ⟨.glst hx0 hc0, fun ρ x y e ⟨ja, hja, e2⟩ A s r hs g => ?_⟩
  have e : x = .ref pa := e
  subst e e2
  have hx := hs.keep _ _ hx0
  have hxs : VL ρ (us.map V.int) xs.toList := hxs0.mono ⟨ρ, rfl⟩
  obtain ⟨o, ho, ⟨ys, hd, hys⟩, _⟩ := hs.ent j ja _ hja hj
  obtain ⟨y0, y1, y2, hy, hys⟩ := hys.ex3
  obtain ⟨e0, e1, e2, _⟩ := hys
  have ey : ys = #[y0, y1, y2] := by rw [← Array.toArray_toList (xs := ys), hy]
  subst ey hd
  refine wpAny_getItem_list_slice ⟨_, hx, hc0, m, hd0⟩ ⟨_, ho, rfl, rfl⟩ (ha.part e0) (hb.part e1) (hc.part e2) h0 ?_ (by rw [hxs.sizeA, sizeLine_val, List.length_map]; lia)
  refine ⟨_, _, .push (t := s.toks) (o := .lst ((pickI us lo hi st).map V.int)) hs rfl ⟨0, _, rfl, ?_⟩ trivial, .ref H.length, ⟨_, by rw [← hs.len]; simp, rfl⟩, h⟩
  refine VL.mono (.snoc _ _) ?_
  rw [← pick_ints]
  unfold slicePick pickV
  rw [hxs.sizeA]
  exact hxs.pick _
theorem seg0 (w : Wo W P (glOf P)) {us : Addr} (h : Exs W (n + 199) (lawAE P) [.junk, .ns [], .cell (some (.gref us)), .cell none, .cell none, .cell none, .cell none, .cell none] ((lawB P).drop 0) lawQ) :
    Cl W (n + 200) [.junk] (.gref 217) [.gref us] [] [] fun v _ => v = .bool true := by
  refine Cl.fnC w.base (w.fn (ok217 P)) (Bnd.p1 (n1 := "script") w.K (fun S x => by kernel_rfl)) (law_body P) (law_scope P) rfl (cl := []) rfl rfl rfl (law_lay P _) (Binds.go ?_)
  exact h
noncomputable def st1 (us : Addr) (t0 t1 t2 t3 : Nat) : List AO := [.junk, .ns [], .cell (some (.gref us)), .cell (some (.ref 8)), .cell none, .cell none, .cell none, .cell none, .lst [.int t0, .int t1, .int t2, .int t3]]
theorem seg1 (w : Wo W P (glOf P)) {us : Addr} {ns : List Int} (hs : ScriptAt W us ns) (hu : ns.length ≤ 63)
    (h : ∀ t0 t1 t2 t3 : Nat, t0 < 384 → t1 < 384 → t2 < 384 → t3 < 384 → Exs W (n + 199) (lawAE P) (st1 us t0 t1 t2 t3) ((lawB P).drop 1) lawQ) : Exs W (n + 199) (lawAE P) [.junk, .ns [], .cell (some (.gref us)), .cell none, .cell none, .cell none, .cell none, .cell none] ((lawB P).drop 0) lawQ := by
  have hz : ns.length ≤ 1000000 := Nat.le_trans hu (by decide)
  refine law_seg 0 1 8 w.base rfl ?_
  refine Raw.mk (Git.gslice hs (lo := some 0) (hi := none) (st := some 4) rfl rfl trivial rfl (by decide) hz ?_)
  refine optP.mk intsOf_map ?_
  refine Raw.mk (Git.gslice hs (lo := some 1) (hi := none) (st := some 4) rfl rfl trivial rfl (by decide) hz ?_)
  refine optP.mk intsOf_map ?_
  refine Raw.mk (Git.gslice hs (lo := some 2) (hi := none) (st := some 4) rfl rfl trivial rfl (by decide) hz ?_)
  refine optP.mk intsOf_map ?_
  refine Raw.mk (Git.gslice hs (lo := some 3) (hi := none) (st := some 4) rfl rfl trivial rfl (by decide) hz ?_)
  refine optP.mk intsOf_map ?_
  refine TidyS.by [11] [] ?_
  have e := h (tt (71 + (pickI ns (some 0) none (some 4)).sum)) (tt (28 + (pickI ns (some 1) none (some 4)).sum)) (tt (146 + (pickI ns (some 2) none (some 4)).sum)) (tt (73 + (pickI ns (some 3) none (some 4)).sum)) tt_lt tt_lt tt_lt tt_lt
  unfold st1 at e
  rw [← tt_eq, ← tt_eq, ← tt_eq, ← tt_eq] at e
  exact e
theorem nat_fdm {t c : Nat} : (t : Int).fdiv (c : Nat) = (t / c : Nat) ∧ (t : Int).fmod (c : Nat) = (t % c : Nat) := by
  rw [Int.fdiv_eq_ediv_of_nonneg _ (by lia), Int.fmod_eq_emod_of_nonneg _ (by lia)]
  exact ⟨rfl, rfl⟩
theorem sg_at {p : Nat} (h : p < 4) : fitsSsize (p : Int) = true ∧ Txt.charAt (Str.ofString "a\"\\\n") (p : Int) = some (sg p) := by
  rcases lt4 h with rfl | rfl | rfl | rfl <;> decide +kernel
theorem sg_m {t : Nat} : fitsSsize ((t : Int).fmod 4) = true ∧ Txt.charAt (Str.ofString "a\"\\\n") ((t : Int).fmod 4) = some (sg (t % 4)) := by
  rw [show (t : Int).fmod 4 = (t % 4 : Nat) from nat_fdm.2]
  exact sg_at (Nat.mod_lt _ (by decide))
theorem sg_d {t : Nat} {c : Nat} : fitsSsize (((t : Int).fdiv (c : Nat)).fmod 4) = true ∧ Txt.charAt (Str.ofString "a\"\\\n") (((t : Int).fdiv (c : Nat)).fmod 4) = some (sg (t / c % 4)) := by
  rw [nat_fdm.1]
  exact sg_m
noncomputable def wdT (t : Nat) : W3 := (t % 4, t / 4 % 4, t / 16 % 4)
theorem wdT_ok {t : Nat} : (wdT t).ok := ⟨Nat.mod_lt _ (by decide), Nat.mod_lt _ (by decide), Nat.mod_lt _ (by decide)⟩
noncomputable def stW (us : Addr) (t0 t1 t2 t3 : Nat) (w0 w1 w2 w3 : W3) : List AO := [.junk, .ns [], .cell (some (.gref us)), .cell (some (.ref 8)), .cell (some (.str "a\"\\\n")), .cell (some (.ref 9)), .cell none, .cell none, .lst [.int t0, .int t1, .int t2, .int t3], .lst [.str w0.str, .str w1.str, .str w2.str, .str w3.str]]
theorem seg2 (w : Wo W P (glOf P)) {us : Addr} {t0 t1 t2 t3 : Nat}
    (h : ∀ w0 w1 w2 w3 : W3, w0.ok → w1.ok → w2.ok → w3.ok → Exs W (n + 199) (lawAE P) (stW us t0 t1 t2 t3 w0 w1 w2 w3) ((lawB P).drop 3) lawQ) : Exs W (n + 199) (lawAE P) (st1 us t0 t1 t2 t3) ((lawB P).drop 1) lawQ := by
  refine law_seg 1 2 9 w.base rfl ?_
  refine gate.mk sg_m.1 (optP.mk sg_m.2 ?_)
  refine gate.mk (sg_d (c := 4)).1 (optP.mk (sg_d (c := 4)).2 ?_)
  refine Gate.mk (by kernel_rfl) ?_
  refine gate.mk (sg_d (c := 16)).1 (optP.mk (sg_d (c := 16)).2 ?_)
  refine Gate.mk (by kernel_rfl) ?_
  refine gate.mk sg_m.1 (optP.mk sg_m.2 ?_)
  refine gate.mk (sg_d (c := 4)).1 (optP.mk (sg_d (c := 4)).2 ?_)
  refine Gate.mk (by kernel_rfl) ?_
  refine gate.mk (sg_d (c := 16)).1 (optP.mk (sg_d (c := 16)).2 ?_)
  refine Gate.mk (by kernel_rfl) ?_
  refine gate.mk sg_m.1 (optP.mk sg_m.2 ?_)
  refine gate.mk (sg_d (c := 4)).1 (optP.mk (sg_d (c := 4)).2 ?_)
  refine Gate.mk (by kernel_rfl) ?_
  refine gate.mk (sg_d (c := 16)).1 (optP.mk (sg_d (c := 16)).2 ?_)
  refine Gate.mk (by kernel_rfl) ?_
  refine gate.mk sg_m.1 (optP.mk sg_m.2 ?_)
  refine gate.mk (sg_d (c := 4)).1 (optP.mk (sg_d (c := 4)).2 ?_)
  refine Gate.mk (by kernel_rfl) ?_
  refine gate.mk (sg_d (c := 16)).1 (optP.mk (sg_d (c := 16)).2 ?_)
  refine Gate.mk (by kernel_rfl) ?_
  refine TidyS.by [10] [0] ⟨rfl, ?_⟩
  exact h (wdT t0) (wdT t1) (wdT t2) (wdT t3) wdT_ok wdT_ok wdT_ok wdT_ok
end
end Mine

-- FILE X3
open PySem PySem.W PyProof.Rows
set_option Elab.async false
set_option autoImplicit false
set_option maxRecDepth 100000
namespace Mine
theorem str_app {a b : List Nat} : (⟨a.toArray⟩ : Str) ++ (⟨b.toArray⟩ : Str) = ⟨(a ++ b).toArray⟩ := by
  show (⟨a.toArray ++ b.toArray⟩ : Str) = _
  simp
theorem text4 {a b c d : List Nat} : Txt.join (Str.ofString "") [⟨a.toArray⟩, ⟨b.toArray⟩, ⟨c.toArray⟩, ⟨d.toArray⟩] = ⟨(a ++ (b ++ (c ++ d))).toArray⟩ := by
  have e : (Str.ofString "").cps = #[] := rfl
  show (⟨a.toArray ++ (Str.ofString "").cps ++ b.toArray ++ (Str.ofString "").cps ++ c.toArray ++ (Str.ofString "").cps ++ d.toArray⟩ : Str) = _
  rw [e]
  simp
theorem wr_len {p q r : Nat} : ∀ {v : Nat}, v < 3 → (wr p q r v).length ≤ 9
  | 0, _ => by
    have : ∀ p, (nL p).length ≤ 2 := fun p => by unfold nL; split <;> simp [escL]
    have h1 := this p
    have h2 := this q
    have h3 := this r
    simp [wr]
    lia
  | 1, _ => by simp [wr, escL]
  | 2, _ => by simp [wr, escL]
theorem text_ok {a b c d : List Nat} (ha : a.length ≤ 9) (hb : b.length ≤ 9) (hc : c.length ≤ 9) (hd : d.length ≤ 9) : JoinOk (Str.ofString "") [⟨a.toArray⟩, ⟨b.toArray⟩, ⟨c.toArray⟩, ⟨d.toArray⟩] = true := by
  unfold JoinOk
  have : (Str.ofString "").cps.size = 0 := rfl
  simp [this, Str.length, Builtin.Str.tooLong, sizeLine_val]
  lia
noncomputable def wrW (w : W3) (v : Nat) : List Nat := wr w.1 w.2.1 w.2.2 v
noncomputable def txt (w0 w1 w2 w3 : W3) (v0 v1 v2 v3 : Nat) : List Nat := wrW w0 v0 ++ (wrW w1 v1 ++ (wrW w2 v2 ++ wrW w3 v3))
theorem v_dm {t c d : Nat} : V.int (((t : Int).fdiv (c : Nat)).fmod (d : Nat)) = V.int (t / c % d : Nat) := by rw [nat_fdm.1, nat_fdm.2]
section
variable {W : Wd} {P : Params} {n k : Nat} {H H1 H2 : List AO} {ae : AE} {m : List Nat} {L : List AO}
noncomputable def stT (us : Addr) (t0 t1 t2 t3 : Nat) (w0 w1 w2 w3 : W3) (T : List Nat) : List AO := [.junk, .ns [⟨"text", .str ⟨T.toArray⟩⟩], .cell (some (.gref us)), .cell (some (.ref 8)), .cell (some (.str "a\"\\\n")), .cell (some (.ref 9)), .cell none, .cell none, .lst [.int t0, .int t1, .int t2, .int t3], .lst [.str w0.str, .str w1.str, .str w2.str, .str w3.str]]
theorem seg3 (w : Wo W P (glOf P)) {us : Addr} {t0 t1 t2 t3 : Nat} {w0 w1 w2 w3 : W3} (o0 : w0.ok) (o1 : w1.ok) (o2 : w2.ok) (o3 : w3.ok)
    (h : ∀ v0 v1 v2 v3 : Nat, v0 < 3 → v1 < 3 → v2 < 3 → v3 < 3 → Exs W (n + 199) (lawAE P) (stT us t0 t1 t2 t3 w0 w1 w2 w3 (txt w0 w1 w2 w3 v0 v1 v2 v3)) ((lawB P).drop 4) lawQ) : Exs W (n + 199) (lawAE P) (stW us t0 t1 t2 t3 w0 w1 w2 w3) ((lawB P).drop 3) lawQ := by
  have hv : ∀ t, t / 64 % 3 < 3 := fun t => Nat.mod_lt _ (by decide)
  refine law_seg 3 1 10 w.base rfl ?_
  refine w.call (ok160 P) (Cl.args (congrArg (fun v => [V.str w0.str, v]) (v_dm (t := t0) (c := 64) (d := 3))) (u_written (n := n + 198) w o0.1 o0.2.1 o0.2.2 (hv t0) ?_))
  refine w.call (ok160 P) (Cl.args (congrArg (fun v => [V.str w1.str, v]) (v_dm (t := t1) (c := 64) (d := 3))) (u_written (n := n + 198) w o1.1 o1.2.1 o1.2.2 (hv t1) ?_))
  refine w.call (ok160 P) (Cl.args (congrArg (fun v => [V.str w2.str, v]) (v_dm (t := t2) (c := 64) (d := 3))) (u_written (n := n + 198) w o2.1 o2.2.1 o2.2.2 (hv t2) ?_))
  refine w.call (ok160 P) (Cl.args (congrArg (fun v => [V.str w3.str, v]) (v_dm (t := t3) (c := 64) (d := 3))) (u_written (n := n + 198) w o3.1 o3.2.1 o3.2.2 (hv t3) ?_))
  refine Gate.mk (text_ok (wr_len (hv t0)) (wr_len (hv t1)) (wr_len (hv t2)) (wr_len (hv t3))) ?_
  refine TidyS.by [] [0] ⟨rfl, ?_⟩
  have e := h _ _ _ _ (hv t0) (hv t1) (hv t2) (hv t3)
  unfold stT txt at e
  rw [← text4] at e
  exact e
end
theorem un_fnSame {m : List Nat} {f : AFn} (h : renCells m f.cells = some f.cells) (hd : renDict m f.dict = some f.dict) : AO.ren m (.fn f) = .fn f := AO.ren_fn h hd
theorem makes144 (P : Params) : makesIn (hpK P) 144 = true := by kernel_rfl
theorem init144 (P : Params) : findIn (hpK P) (.ref 144) "__init__" = some (some (.ref 120)) := by kernel_rfl
theorem y_init (P : Params) : typeIn (hpK P) (.ref 120) = some (.type "function") := by kernel_rfl
section
variable {W : Wd} {P : Params} {n k : Nat} {H H1 H2 : List AO} {ae : AE} {m : List Nat} {L : List AO}
noncomputable def stL (P : Params) (us : Addr) (t0 t1 t2 t3 : Nat) (w0 w1 w2 w3 : W3) (T : List Nat) (line : Int) (cs : List Nat) (pb : List Str) : List AO := [.junk, .ns [⟨"text", .str ⟨T.toArray⟩⟩], .cell (some (.gref us)), .cell (some (.ref 8)), .cell (some (.str "a\"\\\n")), .cell (some (.ref 9)), .cell (some (.ref 16)), .cell none, .lst [.int t0, .int t1, .int t2, .int t3], .lst [.str w0.str, .str w1.str, .str w2.str, .str w3.str],
  .cell (some (.ref 11)), .lst (chs cs), .fn (strmF P (some 14)), .fn (readF P [("signs", 10)]), .ns [("read", .ref 13)], .ns [("lineno", .int line), ("instream", .ref 12), ("whitespace", .str "\n\t\r "), ("pushback", .ref 17)], .inst 144 15, .lst (tks pb)]

theorem seg4 (w : Wo W P (glOf P)) {us : Addr} {t0 t1 t2 t3 : Nat} {w0 w1 w2 w3 : W3} {T : List Nat} (hT : T.length ≤ 1000)
    (h : Exs W (n + 199) (lawAE P) (stL P us t0 t1 t2 t3 w0 w1 w2 w3 T 1 (T ++ [101, 110, 100]) []) ((lawB P).drop 5) lawQ) : Exs W (n + 199) (lawAE P) (stT us t0 t1 t2 t3 w0 w1 w2 w3 T) ((lawB P).drop 4) lawQ := by
  refine law_seg 4 1 10 w.base rfl ?_
  refine Gate.mk (decide_eq_true (by show T.toArray.size + 3 ≤ _; simp; lia)) ?_
  refine w.call (ok155 P) (Cl.args (as' := [.str ⟨(T ++ [101, 110, 100]).toArray⟩]) (congrArg (fun s => [V.str s]) str_app) (Cl.useH (H1 := [.junk, .ns [⟨"text", .str ⟨T.toArray⟩⟩], .cell (some (.gref us)), .cell (some (.ref 8)), .cell (some (.str "a\"\\\n")), .cell (some (.ref 9)), .cell none, .cell none, .lst [.int t0, .int t1, .int t2, .int t3], .lst [.str w0.str, .str w1.str, .str w2.str, .str w3.str],
    .cell (some (.ref 11)), .lst (chs (T ++ [101, 110, 100])), .fn (strmF P (some 14)), .fn (readF P [("signs", 10)]), .ns [("read", .ref 13)]]) (v1 := .ref 12) [] [] View.nil (c_stream (n := n + 197) w (x := ⟨(T ++ [101, 110, 100]).toArray⟩) (by simp; lia)) rfl rfl rfl rfl (by show _ ++ [_, AO.ren _ (.lst (chs _)), _, _, _] = _; rw [ren_chs]; rfl) ?_))
  refine Raw.mk ⟨Kee.cls w.K (makes144 P), ?_⟩
  refine Cl.cls (n := n + 198) w.K (makes144 P) (init144 P) (y_init P) ?_
  refine ClC.fnC w.base (w.fn (ok120 P)) (Bnd.p2 (n1 := "self") (n2 := "fp") w.K (fun S x y => by kernel_rfl)) rfl rfl rfl (cl := []) rfl rfl rfl rfl (Binds.go (Exs.go w.base 60 ?_))
  refine Raw.mk ?_
  refine Sat.inst w.K (cls144 P) rfl rfl (t_lineno P) (Nat.le_trans (length_put_le _ _ _) (Nat.le_of_ble_eq_true rfl)) ?_
  refine Raw.mk ?_
  refine Sat.inst w.K (cls144 P) rfl rfl (t_instream P) (Nat.le_trans (length_put_le _ _ _) (Nat.le_of_ble_eq_true rfl)) ?_
  refine Raw.mk ?_
  refine Sat.inst w.K (cls144 P) rfl rfl (t_whitespace P) (Nat.le_trans (length_put_le _ _ _) (Nat.le_of_ble_eq_true rfl)) ?_
  refine Raw.mk ?_
  refine Sat.inst w.K (cls144 P) rfl rfl (t_pushback P) (Nat.le_trans (length_put_le _ _ _) (Nat.le_of_ble_eq_true rfl)) ?_
  refine ⟨rfl, ?_⟩
  refine TidyS.by [10, 11, 12, 13, 14, 15, 16, 18] [0, 11, 12, 13] ⟨rfl, ren_chs, un_fnSame rfl rfl, un_fnSame rfl rfl, ?_⟩
  exact h
end
theorem lnl3 {line : Int} {a b c : Bool} {p q r : Nat} : lnl line [(a, p), (b, q), (c, r)] = line + nlw (p, q, r) := by
  show line + nl p + nl q + nl r = line + (nl p + nl q + nl r)
  lia
theorem atom_ok {z : Nat} (hz : z < 4) : (atom z).2 < 4 ∧ ((atom z).1 = false → (atom z).2 = 0 ∨ (atom z).2 = 3) := ⟨hz, fun e => by
  show z = 0 ∨ z = 3
  unfold atom at e
  simp at e
  lia⟩
theorem all3 {α : Type} {φ : α → Prop} {a b c : α} (ha : φ a) (hb : φ b) (hc : φ c) : ∀ y ∈ [a, b, c], φ y := fun y hy => by
  simp only [List.mem_cons, List.not_mem_nil, or_false] at hy
  rcases hy with rfl | rfl | rfl
  · exact ha
  · exact hb
  · exact hc
theorem Mode.word {line : Int} {x : W3} {v : Nat} {rest : List Nat} (hx : x.ok) (hv : v < 3) : Mode line (wrW x v ++ rest) (post v ++ rest) x.str (line + nlw x) := by
  obtain ⟨p, q, r⟩ := x
  obtain ⟨hp, hq, hr'⟩ := hx
  match v, hv with
  | 0, _ =>
    have h := Mode.q (line := line) [atom p, atom q, atom r] rest (all3 (atom_ok hp) (atom_ok hq) (atom_ok hr')) (Nat.le_of_ble_eq_true rfl)
    rw [nL_atom, nL_atom, nL_atom, encA_z, List.append_nil] at h
    have e : wrW (p, q, r) 0 ++ rest = 34 :: (nL p ++ (nL q ++ nL r) ++ 34 :: rest) := by
      show 34 :: (nL p ++ (nL q ++ (nL r ++ [34]))) ++ rest = _
      simp
    rw [e, ← lnl3 (a := (atom p).1) (b := (atom q).1) (c := (atom r).1)]
    exact h
  | 1, _ =>
    rw [← lnl3 (a := true) (b := true) (c := true)]
    exact Mode.b (line := line) p [(true, q), (true, r)] rest hp (fun y hy => all3 (φ := fun y => y.1 = true ∧ y.2 < 4) (a := (true, p)) (b := (true, q)) (c := (true, r)) ⟨rfl, hp⟩ ⟨rfl, hq⟩ ⟨rfl, hr'⟩ y (.tail _ hy)) (Nat.le_of_ble_eq_true rfl)
  | 2, _ =>
    rw [← lnl3 (a := true) (b := true) (c := true)]
    exact Mode.q (line := line) [(true, p), (true, q), (true, r)] (13 :: rest) (all3 ⟨hp, fun e => nomatch e⟩ ⟨hq, fun e => nomatch e⟩ ⟨hr', fun e => nomatch e⟩) (Nat.le_of_ble_eq_true rfl)
section
variable {W : Wd} {P : Params} {n k : Nat} {H H1 H2 : List AO} {ae : AE} {m : List Nat} {L : List AO}
theorem c_tokW (w : Wo W P (glOf P)) {line : Int} {x : W3} {u v : Nat} {rest : List Nat} (hx : x.ok) (hv : v < 3) (hr : rest.length ≤ 999) :
    Cl W (n + 6) (lexL P line (post u ++ (wrW x v ++ rest)) []) (.gref 134) [.ref 0] [] [] fun z L => z = .str x.str ∧ L = lexL P (line + nlw x) (post v ++ rest) [] :=
  c_tok w (Mode.word hx hv) post_13.1 (Nat.le_trans post_13.2 (by decide)) (by rw [List.length_append]; have := post_13 (v := v) |>.2; lia)
section
variable {a0 a1 a2 a3 a4 a5 a6 a7 a8 a9 : AO} {G : List AO} {line : Int} {cs : List Nat} {pb : List Str}
theorem lexV : View [16, 15, 12, 14, 13, 10, 11, 17] (lexL P line cs pb) (a0 :: a1 :: a2 :: a3 :: a4 :: a5 :: a6 :: a7 :: a8 :: a9 :: .cell (some (.ref 11)) :: .lst (chs cs) :: .fn (strmF P (some 14)) :: .fn (readF P [("signs", 10)]) :: .ns [("read", .ref 13)] :: .ns [("lineno", .int line), ("instream", .ref 12), ("whitespace", .str "\n\t\r "), ("pushback", .ref 17)] :: .inst 144 15 :: .lst (tks pb) :: G) :=
  .of (by decide) ⟨rfl, rfl, rfl, rfl, rfl, rfl, by rw [ren_chs]; rfl, by rw [ren_tks]; rfl, trivial⟩
theorem u_tokS (w : Wo W P (glOf P)) {N : Nat} {t : Str} {line' : Int} {cs' : List Nat} {Q : V → List AO → Prop} (h : Cl W N (lexL P line cs []) (.gref 134) [.ref 0] [] [] fun z L => z = .str t ∧ L = lexL P line' cs' []) (k : Q (.str t) (a0 :: a1 :: a2 :: a3 :: a4 :: a5 :: a6 :: a7 :: a8 :: a9 :: .cell (some (.ref 11)) :: .lst (chs cs') :: .fn (strmF P (some 14)) :: .fn (readF P [("signs", 10)]) :: .ns [("read", .ref 13)] :: .ns [("lineno", .int line'), ("instream", .ref 12), ("whitespace", .str "\n\t\r "), ("pushback", .ref 17)] :: .inst 144 15 :: .lst (tks []) :: G)) : Cl W N (a0 :: a1 :: a2 :: a3 :: a4 :: a5 :: a6 :: a7 :: a8 :: a9 :: .cell (some (.ref 11)) :: .lst (chs cs) :: .fn (strmF P (some 14)) :: .fn (readF P [("signs", 10)]) :: .ns [("read", .ref 13)] :: .ns [("lineno", .int line), ("instream", .ref 12), ("whitespace", .str "\n\t\r "), ("pushback", .ref 17)] :: .inst 144 15 :: .lst (tks []) :: G) (.gref 134) [.ref 16] [] [] Q :=
  .useUpd2 [16, 15, 12, 14, 13, 10, 11, 17] (lexL P line cs []) 1 6 (o := .ns [("lineno", .int line'), ("instream", .ref 2), ("whitespace", .str "\n\t\r "), ("pushback", .ref 7)]) (o2 := .lst (chs cs')) lexV h rfl rfl rfl (fun _ => rfl) rfl rfl rfl rfl ren_chs k
theorem u_tokP (w : Wo W P (glOf P)) {t : Str} {Q : V → List AO → Prop} (hb : pb.length ≤ 1000) (k : Q (.str t) (a0 :: a1 :: a2 :: a3 :: a4 :: a5 :: a6 :: a7 :: a8 :: a9 :: .cell (some (.ref 11)) :: .lst (chs cs) :: .fn (strmF P (some 14)) :: .fn (readF P [("signs", 10)]) :: .ns [("read", .ref 13)] :: .ns [("lineno", .int line), ("instream", .ref 12), ("whitespace", .str "\n\t\r "), ("pushback", .ref 17)] :: .inst 144 15 :: .lst (tks pb) :: G)) : Cl W (n + 2) (a0 :: a1 :: a2 :: a3 :: a4 :: a5 :: a6 :: a7 :: a8 :: a9 :: .cell (some (.ref 11)) :: .lst (chs cs) :: .fn (strmF P (some 14)) :: .fn (readF P [("signs", 10)]) :: .ns [("read", .ref 13)] :: .ns [("lineno", .int line), ("instream", .ref 12), ("whitespace", .str "\n\t\r "), ("pushback", .ref 17)] :: .inst 144 15 :: .lst (tks (t :: pb)) :: G) (.gref 134) [.ref 16] [] [] Q :=
  .useUpd1 [16, 15, 12, 14, 13, 10, 11, 17] (lexL P line cs (t :: pb)) 7 (o := .lst (tks pb)) lexV (c_tokP (n := n) w hb) rfl rfl rfl (fun _ => rfl) rfl rfl ren_tks k
theorem u_push (w : Wo W P (glOf P)) {t : Str} {Q : V → List AO → Prop} (hb : pb.length ≤ 1000) (k : Q .none (a0 :: a1 :: a2 :: a3 :: a4 :: a5 :: a6 :: a7 :: a8 :: a9 :: .cell (some (.ref 11)) :: .lst (chs cs) :: .fn (strmF P (some 14)) :: .fn (readF P [("signs", 10)]) :: .ns [("read", .ref 13)] :: .ns [("lineno", .int line), ("instream", .ref 12), ("whitespace", .str "\n\t\r "), ("pushback", .ref 17)] :: .inst 144 15 :: .lst (tks (pb ++ [t])) :: G)) : Cl W (n + 2) (a0 :: a1 :: a2 :: a3 :: a4 :: a5 :: a6 :: a7 :: a8 :: a9 :: .cell (some (.ref 11)) :: .lst (chs cs) :: .fn (strmF P (some 14)) :: .fn (readF P [("signs", 10)]) :: .ns [("read", .ref 13)] :: .ns [("lineno", .int line), ("instream", .ref 12), ("whitespace", .str "\n\t\r "), ("pushback", .ref 17)] :: .inst 144 15 :: .lst (tks pb) :: G) (.gref 141) [.ref 16, .str t] [] [] Q :=
  .useUpd1 [16, 15, 12, 14, 13, 10, 11, 17] (lexL P line cs pb) 7 (o := .lst (tks (pb ++ [t]))) lexV (c_push (n := n) w hb) rfl rfl rfl (fun _ => rfl) rfl rfl ren_tks k
end
end
end Mine

-- FILE X4
open PySem PySem.W PyProof.Rows
set_option Elab.async false
set_option autoImplicit false
set_option maxRecDepth 100000
namespace Mine
section
variable {W : Wd} {P : Params} {n k : Nat} {H H1 H2 : List AO} {ae : AE} {m : List Nat} {L : List AO}
noncomputable def stH (P : Params) (us : Addr) (t0 t1 t2 t3 : Nat) (w0 w1 w2 w3 : W3) (T : List Nat) (line : Int) (cs : List Nat) : List AO := [.junk, .ns [⟨"text", .str ⟨T.toArray⟩⟩, ⟨"heard", .ref 18⟩], .cell (some (.gref us)), .cell (some (.ref 8)), .cell (some (.str "a\"\\\n")), .cell (some (.ref 9)), .cell (some (.ref 16)), .cell none, .lst [.int t0, .int t1, .int t2, .int t3], .lst [.str w0.str, .str w1.str, .str w2.str, .str w3.str],
  .cell (some (.ref 11)), .lst (chs cs), .fn (strmF P (some 14)), .fn (readF P [("signs", 10)]), .ns [("read", .ref 13)], .ns [("lineno", .int line), ("instream", .ref 12), ("whitespace", .str "\n\t\r "), ("pushback", .ref 17)], .inst 144 15, .lst (tks []), .lst [.str w0.str, .str w1.str, .str w2.str, .str w3.str]]
theorem txt_end {w0 w1 w2 w3 : W3} {v0 v1 v2 v3 : Nat} : txt w0 w1 w2 w3 v0 v1 v2 v3 ++ [101, 110, 100] = post 0 ++ (wrW w0 v0 ++ (wrW w1 v1 ++ (wrW w2 v2 ++ (wrW w3 v3 ++ [101, 110, 100])))) := by
  unfold txt
  simp [post]
theorem app_le {a b : List Nat} {x y z : Nat} (ha : a.length ≤ x) (hb : b.length ≤ y) (h : x + y ≤ z) : (a ++ b).length ≤ z := by
  rw [List.length_append]; lia
theorem seg5 (w : Wo W P (glOf P)) {us : Addr} {t0 t1 t2 t3 : Nat} {w0 w1 w2 w3 : W3} {v0 v1 v2 v3 : Nat} (o0 : w0.ok) (o1 : w1.ok) (o2 : w2.ok) (o3 : w3.ok) (hv0 : v0 < 3) (hv1 : v1 < 3) (hv2 : v2 < 3) (hv3 : v3 < 3)
    (h : Exs W (n + 199) (lawAE P) (stH P us t0 t1 t2 t3 w0 w1 w2 w3 (txt w0 w1 w2 w3 v0 v1 v2 v3) (1 + nlw w0 + nlw w1 + nlw w2 + nlw w3) (post v3 ++ [101, 110, 100])) ((lawB P).drop 7) lawQ) :
    Exs W (n + 199) (lawAE P) (stL P us t0 t1 t2 t3 w0 w1 w2 w3 (txt w0 w1 w2 w3 v0 v1 v2 v3) 1 (txt w0 w1 w2 w3 v0 v1 v2 v3 ++ [101, 110, 100]) []) ((lawB P).drop 5) lawQ := by
  have hl : ∀ {x : W3} {v : Nat} {r : List Nat} {z : Nat}, v < 3 → r.length ≤ z → (wrW x v ++ r).length ≤ 9 + z := fun hv hr => app_le (wr_len hv) hr (Nat.le_refl _)
  have h3 : (wrW w3 v3 ++ [101, 110, 100]).length ≤ 12 := hl hv3 (Nat.le_refl _)
  have h2 : (wrW w2 v2 ++ (wrW w3 v3 ++ [101, 110, 100])).length ≤ 21 := hl hv2 h3
  have h1 : (wrW w1 v1 ++ (wrW w2 v2 ++ (wrW w3 v3 ++ [101, 110, 100]))).length ≤ 30 := hl hv1 h2
  rw [txt_end]
  generalize txt w0 w1 w2 w3 v0 v1 v2 v3 = T at h ⊢
  refine law_seg 5 2 18 w.base rfl ?_
  refine Raw.mk ?_
  refine Met.inst w.K (cls144 P) rfl rfl rfl (f_get P) (y_get P) ?_
  refine w.call (ok134 P) (u_tokS (N := n + 199) w (c_tokW (n := n + 193) (u := 0) (v := v0) (x := w0) w o0 hv0 (Nat.le_trans h1 (by decide))) ?_)
  refine Raw.mk ?_
  refine Met.inst w.K (cls144 P) rfl rfl rfl (f_get P) (y_get P) ?_
  refine w.call (ok134 P) (u_tokS (N := n + 199) w (c_tokW (n := n + 193) (u := v0) (v := v1) (x := w1) w o1 hv1 (Nat.le_trans h2 (by decide))) ?_)
  refine Raw.mk ?_
  refine Met.inst w.K (cls144 P) rfl rfl rfl (f_get P) (y_get P) ?_
  refine w.call (ok134 P) (u_tokS (N := n + 199) w (c_tokW (n := n + 193) (u := v1) (v := v2) (x := w2) w o2 hv2 (Nat.le_trans h3 (by decide))) ?_)
  refine Raw.mk ?_
  refine Met.inst w.K (cls144 P) rfl rfl rfl (f_get P) (y_get P) ?_
  refine w.call (ok134 P) (u_tokS (N := n + 199) w (c_tokW (n := n + 193) (u := v2) (v := v3) (x := w3) (rest := [101, 110, 100]) w o3 hv3 (by decide)) ?_)
  refine Raw.mk ?_
  refine Cmp.neL rfl rfl rfl (VEq.strs (l := [w0.str, w1.str, w2.str, w3.str])) ?_
  exact TidyS.by [19] [0, 11, 12, 13] ⟨rfl, ren_chs, un_fnSame rfl rfl, un_fnSame rfl rfl, h⟩


end
end Mine

-- FILE X5
open PySem PySem.W PyProof.Rows
set_option Elab.async false
set_option autoImplicit false
set_option maxRecDepth 100000
namespace Mine
section
variable {W : Wd} {P : Params} {n k : Nat} {H H1 H2 : List AO} {ae : AE} {m : List Nat} {L : List AO}
theorem fit20 : Fits ((2 : Int) ^ (20 : Int).toNat) := ⟨by decide, by decide⟩
noncomputable def tolL (w : W3) : List Int := [(topI w + lowI w) * (2 : Int) ^ (20 : Int).toNat, (topI w - lowI w) * (2 : Int) ^ (20 : Int).toNat, (topI w - lowI w) * (2 : Int) ^ (20 : Int).toNat, topI w * (2 : Int) ^ (20 : Int).toNat]
theorem ti4 {p : Nat} (h : p < 4) : ((4 : Int) != 0 && !Float64.isInf (fracF p 4)) = true := by rw [fl_fin h]; rfl
theorem u_negcn (w : Wo W P (glOf P)) {x : W3} {s : Str} {Q : V → List AO → Prop} (hx : x.ok) (e : s = x.str) (hc : hueGe x = true) (k : Q (.str (cn x).str) H) : Cl W (n + 2) H (.gref 170) [.str s] [] [] Q := by
  rw [cn_t hc] at k
  subst e
  exact u_negative w hx.1 hx.2.1 hx.2.2 k
theorem u_partsW (w : Wo W P (glOf P)) {x : W3} {s : Str} {Q : V → List AO → Prop} (hx : x.ok) (e : s = x.str) (k : newK H (.lst [.int x.1, .int x.2.1, .int x.2.2]) Q) : Cl W (n + 1) H (.gref 165) [.str s] [] [] Q := by
  subst e
  exact u_parts w hx.1 hx.2.1 hx.2.2 k
noncomputable def stpX (x : W3) : Int := (x.1 : Int) - x.2.2
noncomputable def stpY (x : W3) : Int := (x.2.1 : Int) - x.2.2
theorem u_stepW (w : Wo W P (glOf P)) {x : W3} {s : Str} {Q : V → List AO → Prop} (hx : x.ok) (e : s = x.str) (k : newK H (.lst [.int (stpX x), .int (stpY x)]) Q) : Cl W (n + 2) H (.gref 177) [.str s] [] [] Q := by
  subst e
  exact u_step w hx.1 hx.2.1 hx.2.2 k
theorem u_wayW (w : Wo W P (glOf P)) {x : W3} {i : Nat} {Q : V → List AO → Prop} (hx : x.ok) (hi : H[i]? = some (.lst [.int (stpX x), .int (stpY x)])) (k : Q (.int (wayW x)) H) : Cl W (n + 1) H (.gref 198) [.ref i] [] [] Q := by
  have h1 := hx.1
  have h2 := hx.2.1
  have h3 := hx.2.2
  exact u_way w ⟨by unfold stpX; lia, by unfold stpX; lia⟩ (by unfold stpY; lia) hi k
theorem u_insX1 (w : Wo W P (glOf P)) {late : Nat} {ws ws' : List W3} {x : W3} {l : Nat} {Q : V → List AO → Prop} (hl1 : late = 1) (e : ws' = insX (decide (late = 1)) ws x) (hx : x.ok) (hw : (∀ w ∈ ws, w.ok) ∧ ws.length ≤ 100) (hi : H[l]? = some (.lst (wds ws))) (k : Q .none (H.set l (.lst (wds ws')))) : Cl W (n + 5) H (.gref 83) [.ref l, .str x.str] ["key"] [.gref 191] Q := by
  subst hl1 e
  exact u_insL w hx hw.1 hw.2 hi k
theorem u_insX0 (w : Wo W P (glOf P)) {late : Nat} {ws ws' : List W3} {x : W3} {l : Nat} {Q : V → List AO → Prop} (hl1 : late = 0) (e : ws' = insX (decide (late = 1)) ws x) (hx : x.ok) (hw : (∀ w ∈ ws, w.ok) ∧ ws.length ≤ 100) (hi : H[l]? = some (.lst (wds ws))) (k : Q .none (H.set l (.lst (wds ws')))) : Cl W (n + 5) H (.gref 65) [.ref l, .str x.str] ["key"] [.gref 191] Q := by
  subst hl1 e
  exact u_insR w hx hw.1 hw.2 hi k
theorem insX_good {late : Bool} {R : List W3} {c : W3} {k : Nat} (h : (∀ w ∈ R, w.ok) ∧ R.length ≤ k) (hc : c.ok) : (∀ w ∈ insX late R c, w.ok) ∧ (insX late R c).length ≤ k + 1 := ⟨insX_ok h.1 hc, by rw [insX_len]; exact Nat.succ_le_succ h.2⟩
noncomputable def row1 (late : Nat) (c0 : W3) : List W3 := insX (decide (late = 1)) [] c0
noncomputable def row2 (late : Nat) (c0 c1 : W3) : List W3 := insX (decide (late = 1)) (row1 late c0) c1
noncomputable def row3 (late : Nat) (c0 c1 c2 : W3) : List W3 := insX (decide (late = 1)) (row2 late c0 c1) c2
theorem row1_ok {late : Nat} {c0 : W3} (h0 : c0.ok) : (∀ w ∈ row1 late c0, w.ok) ∧ (row1 late c0).length ≤ 1 := insX_good (R := []) ⟨fun _ h => (nomatch h), Nat.le_refl _⟩ h0
theorem row2_ok {late : Nat} {c0 c1 : W3} (h0 : c0.ok) (h1 : c1.ok) : (∀ w ∈ row2 late c0 c1, w.ok) ∧ (row2 late c0 c1).length ≤ 2 := insX_good (row1_ok h0) h1
theorem row3_ok {late : Nat} {c0 c1 c2 : W3} (h0 : c0.ok) (h1 : c1.ok) (h2 : c2.ok) : (∀ w ∈ row3 late c0 c1 c2, w.ok) ∧ (row3 late c0 c1 c2).length ≤ 3 := insX_good (row2_ok h0 h1) h2
theorem le100 {R : List W3} {k : Nat} (h : (∀ w ∈ R, w.ok) ∧ R.length ≤ k) (hk : k ≤ 100) : (∀ w ∈ R, w.ok) ∧ R.length ≤ 100 := ⟨h.1, Nat.le_trans h.2 hk⟩
theorem Cmp.neZ {z : Bool} {l b : Nat} {vs ws : List V} {Q : V → List AO → Prop} (hz : z = false) (hl : H[l]? = some (.lst vs)) (hb : H[b]? = some (.lst ws)) (hlen : vs.length = ws.length) (he : ∀ (k : Nat) (v w : V), vs[k]? = some v → ws[k]? = some w → VEq W.B H v w)
    (h : Q (.bool z) H) : Cmp W n H .NotEq (.ref l) (.ref b) Q := Cmp.neL hl hb hlen he (hz ▸ h)
noncomputable def geH (a : UInt64) : Bool := (cmpF .GtE a 4602678819172646912).getD false
structure HuesA (w : W3) (a b c d e f : UInt64) : Prop where
  hls : hlsW w = (a, b, c)
  hsv : hsvW w = (d, e, f)
  n1 : nearV b 8 = some ((topI w + lowI w) * (2 : Int) ^ (20 : Int).toNat)
  n2 : nearV c (max2I 1 (min2I (topI w + lowI w) (8 - topI w - lowI w))) = some ((topI w - lowI w) * (2 : Int) ^ (20 : Int).toNat)
  n3 : nearV e (max2I 1 (topI w)) = some ((topI w - lowI w) * (2 : Int) ^ (20 : Int).toNat)
  n4 : nearV f 4 = some (topI w * (2 : Int) ^ (20 : Int).toNat)
  eq : eqF a d = true
  ge : hueGe w = geH a
theorem huesA {w : W3} (h : w.ok) : ∃ a b c d e f, HuesA w a b c d e f :=
  have q := hues h
  ⟨_, _, _, _, _, _, rfl, rfl, q.n1, q.n2, q.n3, q.n4, q.eq, rfl⟩
theorem u_hlsW (w : Wo W P (glOf P)) {x : W3} {a b c d e f : UInt64} {Q : V → List AO → Prop} (hx : x.ok) (h : HuesA x a b c d e f) (k : newK H (.tup [.flt a, .flt b, .flt c]) Q) : Cl W (n + 1) H (.gref 99) [.flt (fracF x.1 4), .flt (fracF x.2.1 4), .flt (fracF x.2.2 4)] [] [] Q := by
  refine u_hls w hx.1 hx.2.1 hx.2.2 ?_
  rw [show hls (fl x.1) (fl x.2.1) (fl x.2.2) = (a, b, c) from h.hls]
  exact k
theorem u_hsvW (w : Wo W P (glOf P)) {x : W3} {a b c d e f : UInt64} {Q : V → List AO → Prop} (hx : x.ok) (h : HuesA x a b c d e f) (k : newK H (.tup [.flt d, .flt e, .flt f]) Q) : Cl W (n + 1) H (.gref 106) [.flt (fracF x.1 4), .flt (fracF x.2.1 4), .flt (fracF x.2.2 4)] [] [] Q := by
  refine u_hsv w hx.1 hx.2.1 hx.2.2 ?_
  rw [show hsv (fl x.1) (fl x.2.1) (fl x.2.2) = (d, e, f) from h.hsv, show hue x.1 x.2.1 x.2.2 = (hsvW x).1 from rfl, h.hsv]
  exact k
noncomputable def nsR (T : Str) (late : Nat) (k : Int) (word : Str) (v : List (Str × V)) : List (Str × V) := ⟨"text", .str T⟩ :: ⟨"heard", .ref 18⟩ :: ⟨"late", .int late⟩ :: ⟨"row", .ref 19⟩ :: ⟨"due", .ref 20⟩ :: ⟨"k", .int k⟩ :: ⟨"word", .str word⟩ :: v
noncomputable def nsV (r g b t l : Int) (v1 v2 v3 v4 v5 v6 : UInt64) (told : Nat) (plain : Str) (ac up : Int) : List (Str × V) := [⟨"red", .int r⟩, ⟨"green", .int g⟩, ⟨"blue", .int b⟩, ⟨"top", .int t⟩, ⟨"low", .int l⟩, ⟨"hue", .flt v1⟩, ⟨"light", .flt v2⟩, ⟨"pure", .flt v3⟩, ⟨"other", .flt v4⟩, ⟨"share", .flt v5⟩, ⟨"value", .flt v6⟩, ⟨"told", .ref told⟩, ⟨"plain", .str plain⟩, ⟨"across", .int ac⟩, ⟨"up", .int up⟩]
theorem up_all {x : W3} (h : x.ok) : hueGe x = decide (stpY x < 0 ∨ (stpY x = 0 ∧ stpX x < 0)) := by
  rw [(hues h).up]
  unfold stpX stpY
  by_cases q : x.2.1 < x.2.2 ∨ (x.2.1 = x.2.2 ∧ x.1 < x.2.2)
  · rw [decide_eq_true q, decide_eq_true (by lia)]
  · rw [decide_eq_false q, decide_eq_false (by lia)]
theorem up_t1 {x : W3} (h : x.ok) (a : decide (stpY x < 0) = true) : hueGe x = true := by
  rw [up_all h]; exact decide_eq_true (.inl (of_decide_eq_true a))
theorem up_t2 {x : W3} (h : x.ok) (a : (stpY x == 0) = true) (b : decide (stpX x < 0) = true) : hueGe x = true := by
  rw [up_all h]; exact decide_eq_true (.inr ⟨beq_iff_eq.mp a, of_decide_eq_true b⟩)
theorem up_f1 {x : W3} (h : x.ok) (a : decide (stpY x < 0) = false) (b : (stpY x == 0) = false) : hueGe x = false := by
  rw [up_all h]; exact decide_eq_false fun q => q.elim (of_decide_eq_false a) fun q => beq_eq_false_iff_ne.mp b q.1
theorem up_f2 {x : W3} (h : x.ok) (a : decide (stpY x < 0) = false) (b : decide (stpX x < 0) = false) : hueGe x = false := by
  rw [up_all h]; exact decide_eq_false fun q => q.elim (of_decide_eq_false a) fun q => of_decide_eq_false b q.2
theorem fit8 : Fits 8 := ⟨by decide, by decide⟩
theorem fit2 : Fits 2 := ⟨by decide, by decide⟩
/-- the state ahead of the row loop's turns: the words heard and written as names of their own -/
noncomputable def objs (P : Params) (us : Addr) (t0 t1 t2 t3 : Nat) (p0 p1 p2 p3 : Str) (line : Int) (cs : List Nat) (nsm : List (Str × V)) (G : List AO) : List AO := .junk :: .ns nsm :: .cell (some (.gref us)) :: .cell (some (.ref 8)) :: .cell (some (.str "a\"\\\n")) :: .cell (some (.ref 9)) :: .cell (some (.ref 16)) :: .cell none :: .lst [.int t0, .int t1, .int t2, .int t3] :: .lst [.str p0, .str p1, .str p2, .str p3] ::
  .cell (some (.ref 11)) :: .lst (chs cs) :: .fn (strmF P (some 14)) :: .fn (readF P [("signs", 10)]) :: .ns [("read", .ref 13)] :: .ns [("lineno", .int line), ("instream", .ref 12), ("whitespace", .str "\n\t\r "), ("pushback", .ref 17)] :: .inst 144 15 :: .lst (tks []) :: G
set_option maxHeartbeats 0 in
theorem seg6 (w : Wo W P (glOf P)) {us : Addr} {t0 t1 t2 t3 : Nat} {w0 w1 w2 w3 : W3} {p0 p1 p2 p3 s0 s1 s2 s3 T : Str} {line : Int} {cs : List Nat} (o0 : w0.ok) (o1 : w1.ok) (o2 : w2.ok) (o3 : w3.ok)
    (hp0 : p0 = w0.str) (hp1 : p1 = w1.str) (hp2 : p2 = w2.str) (hp3 : p3 = w3.str) (hs0 : s0 = w0.str) (hs1 : s1 = w1.str) (hs2 : s2 = w2.str) (hs3 : s3 = w3.str)
    (late : Nat) (hlate : t0 / 192 % 2 = late)
    (h : ∀ (r g b t l : Int) (v1 v2 v3 v4 v5 v6 : UInt64) (ac up i1 i2 i3 i4 : Int), Exs W (n + 199) (lawAE P) (objs P us t0 t1 t2 t3 p0 p1 p2 p3 line cs (nsR T late 3 (cn w3).str (nsV r g b t l v1 v2 v3 v4 v5 v6 21 (cn w3).str ac up))
      [.lst [.str s0, .str s1, .str s2, .str s3], .lst (wds (rowX late (cn w0) (cn w1) (cn w2) (cn w3))), .lst [.ref 22, .ref 23, .ref 24, .ref 25], .lst [.int i1, .int i2, .int i3, .int i4], .lst [.int (keyW (cn w0) 0 late), .str (cn w0).str], .lst [.int (keyW (cn w1) 1 late), .str (cn w1).str], .lst [.int (keyW (cn w2) 2 late), .str (cn w2).str], .lst [.int (keyW (cn w3) 3 late), .str (cn w3).str], .dict]) ((lawB P).drop 11) lawQ) :
    Exs W (n + 199) (lawAE P) (objs P us t0 t1 t2 t3 p0 p1 p2 p3 line cs [⟨"text", .str T⟩, ⟨"heard", .ref 18⟩] [.lst [.str s0, .str s1, .str s2, .str s3]]) ((lawB P).drop 7) lawQ := by
  obtain ⟨a0, b0, c0, d0, e0, f0, h0⟩ := huesA o0
  obtain ⟨a1, b1, c1, d1, e1, f1, h1⟩ := huesA o1
  obtain ⟨a2, b2, c2, d2, e2, f2, h2⟩ := huesA o2
  obtain ⟨a3, b3, c3, d3, e3, f3, h3⟩ := huesA o3
  obtain ⟨z, hz⟩ : ∃ z, z = false := ⟨_, rfl⟩
  have hlt : late < 2 := hlate ▸ Nat.mod_lt _ (by decide)
  have el : ((t0 : Int).fdiv 192).fmod 2 = (late : Nat) := by rw [← hlate]; exact V.int.inj (v_dm (t := t0) (c := 192) (d := 2))
  refine law_seg 7 4 19 w.base rfl ?_
  refine Raw.mk (For.goN (n := n + 199) 23 w.base 60 (nxtP_el (c := cx w.base (n + 199)) ?_))
  rw [el]
  refine w.call (ok165 P) (u_partsW w o0 hs0 ?_)
  refine Gate.mk (ti4 o0.1) (Gate.mk (ti4 o0.2.1) (Gate.mk (ti4 o0.2.2) ?_))
  refine w.call (ok99 P) (u_hlsW w o0 h0 ?_)
  refine Gate.mk (ti4 o0.1) (Gate.mk (ti4 o0.2.1) (Gate.mk (ti4 o0.2.2) ?_))
  refine w.call (ok106 P) (u_hsvW w o0 h0 ?_)
  refine w.call (ok184 P) (u_nearV w h0.n1 ?_)
  refine w.call (ok184 P) (u_nearV w h0.n2 ?_)
  refine w.call (ok184 P) (u_nearV w h0.n3 ?_)
  refine w.call (ok184 P) (u_nearV w h0.n4 ?_)
  refine Raw.mk ?_
  refine Bin.addL rfl rfl (Nat.le_of_ble_eq_true rfl) ?_
  refine brP.f (bneF h0.eq) ?_
  refine Gate.mk (fit_r fit20) (Gate.mk (fit_r fit20) (Gate.mk (fit_r fit20) (Gate.mk (fit_r fit20) ?_)))
  refine Raw.mk ?_
  refine Cmp.neZ hz rfl rfl rfl (VEq.ints (l := tolL w0)) ?_
  refine brP.f hz ?_
  suffices key : brP _ _ _ from by
    refine brP.mk (fun hc => ?_) (fun hc => ?_)
    · refine w.call (ok170 P) (u_negcn w o0 hs0 (h0.ge.trans hc) ?_)
      exact key
    · have e := hs0.trans (cn_f (h0.ge.trans hc)).symm
      subst e
      exact key
  suffices key : Raw _ from by
    refine brP.mk (fun hc => ?_) (fun hc => ?_)
    · refine w.call (ok83 P) (u_insX1 (ws' := row1 late (cn w0)) w (by have := beq_iff_eq.mp hc; lia) rfl (cn_ok o0) ⟨fun _ h => (nomatch h), Nat.zero_le _⟩ rfl ?_)
      exact key
    · refine w.call (ok65 P) (u_insX0 (ws' := row1 late (cn w0)) w (by have := beq_eq_false_iff_ne.mp hc; lia) rfl (cn_ok o0) ⟨fun _ h => (nomatch h), Nat.zero_le _⟩ rfl ?_)
      exact key
  refine w.call (ok177 P) (u_stepW w o0 hp0 ?_)
  suffices key : Raw _ from by
    refine brP.mk (fun hc => ?_) (fun hc => ?_)
    · refine w.call (ok170 P) (u_negcn w o0 hp0 (up_t1 o0 hc) ?_)
      exact key
    · refine brP.mk (fun hc2 => ?_) (fun hc2 => ?_)
      · refine brP.mk (fun hc3 => ?_) (fun hc3 => ?_)
        · refine w.call (ok170 P) (u_negcn w o0 hp0 (up_t2 o0 hc2 hc3) ?_)
          exact key
        · have e := hp0.trans (cn_f (up_f2 o0 hc hc3)).symm
          subst e
          exact key
      · have e := hp0.trans (cn_f (up_f1 o0 hc hc2)).symm
        subst e
        exact key
  refine w.call (ok177 P) (u_stepW w (cn_ok o0) rfl ?_)
  refine w.call (ok198 P) (u_wayW w (cn_ok o0) rfl ?_)
  refine Gate.mk (fit_l fit8) (Gate.mk (fit_l fit2) (Gate.mk (fit_l ⟨by decide, by decide⟩) ?_))
  refine TidyS.by [28, 35] [0, 11, 12, 13, 19] ⟨rfl, ren_chs, un_fnSame rfl rfl, un_fnSame rfl rfl, ren_wds, ?_⟩
  refine For.goN (n := n + 199) 25 w.base 60 (nxtP_el (c := cx w.base (n + 199)) ?_)
  refine w.call (ok165 P) (u_partsW w o1 hs1 ?_)
  refine Gate.mk (ti4 o1.1) (Gate.mk (ti4 o1.2.1) (Gate.mk (ti4 o1.2.2) ?_))
  refine w.call (ok99 P) (u_hlsW w o1 h1 ?_)
  refine Gate.mk (ti4 o1.1) (Gate.mk (ti4 o1.2.1) (Gate.mk (ti4 o1.2.2) ?_))
  refine w.call (ok106 P) (u_hsvW w o1 h1 ?_)
  refine w.call (ok184 P) (u_nearV w h1.n1 ?_)
  refine w.call (ok184 P) (u_nearV w h1.n2 ?_)
  refine w.call (ok184 P) (u_nearV w h1.n3 ?_)
  refine w.call (ok184 P) (u_nearV w h1.n4 ?_)
  refine Raw.mk ?_
  refine Bin.addL rfl rfl (Nat.le_of_ble_eq_true rfl) ?_
  refine brP.f (bneF h1.eq) ?_
  refine Gate.mk (fit_r fit20) (Gate.mk (fit_r fit20) (Gate.mk (fit_r fit20) (Gate.mk (fit_r fit20) ?_)))
  refine Raw.mk ?_
  refine Cmp.neZ hz rfl rfl rfl (VEq.ints (l := tolL w1)) ?_
  refine brP.f hz ?_
  suffices key : brP _ _ _ from by
    refine brP.mk (fun hc => ?_) (fun hc => ?_)
    · refine w.call (ok170 P) (u_negcn w o1 hs1 (h1.ge.trans hc) ?_)
      exact key
    · have e := hs1.trans (cn_f (h1.ge.trans hc)).symm
      subst e
      exact key
  suffices key : Raw _ from by
    refine brP.mk (fun hc => ?_) (fun hc => ?_)
    · refine w.call (ok83 P) (u_insX1 (ws' := row2 late (cn w0) (cn w1)) w (by have := beq_iff_eq.mp hc; lia) rfl (cn_ok o1) (le100 (row1_ok (cn_ok o0)) (by decide)) rfl ?_)
      exact key
    · refine w.call (ok65 P) (u_insX0 (ws' := row2 late (cn w0) (cn w1)) w (by have := beq_eq_false_iff_ne.mp hc; lia) rfl (cn_ok o1) (le100 (row1_ok (cn_ok o0)) (by decide)) rfl ?_)
      exact key
  refine w.call (ok177 P) (u_stepW w o1 hp1 ?_)
  suffices key : Raw _ from by
    refine brP.mk (fun hc => ?_) (fun hc => ?_)
    · refine w.call (ok170 P) (u_negcn w o1 hp1 (up_t1 o1 hc) ?_)
      exact key
    · refine brP.mk (fun hc2 => ?_) (fun hc2 => ?_)
      · refine brP.mk (fun hc3 => ?_) (fun hc3 => ?_)
        · refine w.call (ok170 P) (u_negcn w o1 hp1 (up_t2 o1 hc2 hc3) ?_)
          exact key
        · have e := hp1.trans (cn_f (up_f2 o1 hc hc3)).symm
          subst e
          exact key
      · have e := hp1.trans (cn_f (up_f1 o1 hc hc2)).symm
        subst e
        exact key
  refine w.call (ok177 P) (u_stepW w (cn_ok o1) rfl ?_)
  refine w.call (ok198 P) (u_wayW w (cn_ok o1) rfl ?_)
  refine Gate.mk (fit_l fit8) (Gate.mk (fit_l fit2) (Gate.mk (fit_l ⟨by decide, by decide⟩) ?_))
  refine TidyS.by [30, 37] [0, 11, 12, 13, 19] ⟨rfl, ren_chs, un_fnSame rfl rfl, un_fnSame rfl rfl, ren_wds, ?_⟩
  refine For.goN (n := n + 199) 27 w.base 60 (nxtP_el (c := cx w.base (n + 199)) ?_)
  refine w.call (ok165 P) (u_partsW w o2 hs2 ?_)
  refine Gate.mk (ti4 o2.1) (Gate.mk (ti4 o2.2.1) (Gate.mk (ti4 o2.2.2) ?_))
  refine w.call (ok99 P) (u_hlsW w o2 h2 ?_)
  refine Gate.mk (ti4 o2.1) (Gate.mk (ti4 o2.2.1) (Gate.mk (ti4 o2.2.2) ?_))
  refine w.call (ok106 P) (u_hsvW w o2 h2 ?_)
  refine w.call (ok184 P) (u_nearV w h2.n1 ?_)
  refine w.call (ok184 P) (u_nearV w h2.n2 ?_)
  refine w.call (ok184 P) (u_nearV w h2.n3 ?_)
  refine w.call (ok184 P) (u_nearV w h2.n4 ?_)
  refine Raw.mk ?_
  refine Bin.addL rfl rfl (Nat.le_of_ble_eq_true rfl) ?_
  refine brP.f (bneF h2.eq) ?_
  refine Gate.mk (fit_r fit20) (Gate.mk (fit_r fit20) (Gate.mk (fit_r fit20) (Gate.mk (fit_r fit20) ?_)))
  refine Raw.mk ?_
  refine Cmp.neZ hz rfl rfl rfl (VEq.ints (l := tolL w2)) ?_
  refine brP.f hz ?_
  suffices key : brP _ _ _ from by
    refine brP.mk (fun hc => ?_) (fun hc => ?_)
    · refine w.call (ok170 P) (u_negcn w o2 hs2 (h2.ge.trans hc) ?_)
      exact key
    · have e := hs2.trans (cn_f (h2.ge.trans hc)).symm
      subst e
      exact key
  suffices key : Raw _ from by
    refine brP.mk (fun hc => ?_) (fun hc => ?_)
    · refine w.call (ok83 P) (u_insX1 (ws' := row3 late (cn w0) (cn w1) (cn w2)) w (by have := beq_iff_eq.mp hc; lia) rfl (cn_ok o2) (le100 (row2_ok (cn_ok o0) (cn_ok o1)) (by decide)) rfl ?_)
      exact key
    · refine w.call (ok65 P) (u_insX0 (ws' := row3 late (cn w0) (cn w1) (cn w2)) w (by have := beq_eq_false_iff_ne.mp hc; lia) rfl (cn_ok o2) (le100 (row2_ok (cn_ok o0) (cn_ok o1)) (by decide)) rfl ?_)
      exact key
  refine w.call (ok177 P) (u_stepW w o2 hp2 ?_)
  suffices key : Raw _ from by
    refine brP.mk (fun hc => ?_) (fun hc => ?_)
    · refine w.call (ok170 P) (u_negcn w o2 hp2 (up_t1 o2 hc) ?_)
      exact key
    · refine brP.mk (fun hc2 => ?_) (fun hc2 => ?_)
      · refine brP.mk (fun hc3 => ?_) (fun hc3 => ?_)
        · refine w.call (ok170 P) (u_negcn w o2 hp2 (up_t2 o2 hc2 hc3) ?_)
          exact key
        · have e := hp2.trans (cn_f (up_f2 o2 hc hc3)).symm
          subst e
          exact key
      · have e := hp2.trans (cn_f (up_f1 o2 hc hc2)).symm
        subst e
        exact key
  refine w.call (ok177 P) (u_stepW w (cn_ok o2) rfl ?_)
  refine w.call (ok198 P) (u_wayW w (cn_ok o2) rfl ?_)
  refine Gate.mk (fit_l fit8) (Gate.mk (fit_l fit2) (Gate.mk (fit_l ⟨by decide, by decide⟩) ?_))
  refine TidyS.by [32, 39] [0, 11, 12, 13, 19] ⟨rfl, ren_chs, un_fnSame rfl rfl, un_fnSame rfl rfl, ren_wds, ?_⟩
  refine For.goN (n := n + 199) 29 w.base 60 (nxtP_el (c := cx w.base (n + 199)) ?_)
  refine w.call (ok165 P) (u_partsW w o3 hs3 ?_)
  refine Gate.mk (ti4 o3.1) (Gate.mk (ti4 o3.2.1) (Gate.mk (ti4 o3.2.2) ?_))
  refine w.call (ok99 P) (u_hlsW w o3 h3 ?_)
  refine Gate.mk (ti4 o3.1) (Gate.mk (ti4 o3.2.1) (Gate.mk (ti4 o3.2.2) ?_))
  refine w.call (ok106 P) (u_hsvW w o3 h3 ?_)
  refine w.call (ok184 P) (u_nearV w h3.n1 ?_)
  refine w.call (ok184 P) (u_nearV w h3.n2 ?_)
  refine w.call (ok184 P) (u_nearV w h3.n3 ?_)
  refine w.call (ok184 P) (u_nearV w h3.n4 ?_)
  refine Raw.mk ?_
  refine Bin.addL rfl rfl (Nat.le_of_ble_eq_true rfl) ?_
  refine brP.f (bneF h3.eq) ?_
  refine Gate.mk (fit_r fit20) (Gate.mk (fit_r fit20) (Gate.mk (fit_r fit20) (Gate.mk (fit_r fit20) ?_)))
  refine Raw.mk ?_
  refine Cmp.neZ hz rfl rfl rfl (VEq.ints (l := tolL w3)) ?_
  refine brP.f hz ?_
  suffices key : brP _ _ _ from by
    refine brP.mk (fun hc => ?_) (fun hc => ?_)
    · refine w.call (ok170 P) (u_negcn w o3 hs3 (h3.ge.trans hc) ?_)
      exact key
    · have e := hs3.trans (cn_f (h3.ge.trans hc)).symm
      subst e
      exact key
  suffices key : Raw _ from by
    refine brP.mk (fun hc => ?_) (fun hc => ?_)
    · refine w.call (ok83 P) (u_insX1 (ws' := rowX late (cn w0) (cn w1) (cn w2) (cn w3)) w (by have := beq_iff_eq.mp hc; lia) rfl (cn_ok o3) (le100 (row3_ok (cn_ok o0) (cn_ok o1) (cn_ok o2)) (by decide)) rfl ?_)
      exact key
    · refine w.call (ok65 P) (u_insX0 (ws' := rowX late (cn w0) (cn w1) (cn w2) (cn w3)) w (by have := beq_eq_false_iff_ne.mp hc; lia) rfl (cn_ok o3) (le100 (row3_ok (cn_ok o0) (cn_ok o1) (cn_ok o2)) (by decide)) rfl ?_)
      exact key
  refine w.call (ok177 P) (u_stepW w o3 hp3 ?_)
  suffices key : Raw _ from by
    refine brP.mk (fun hc => ?_) (fun hc => ?_)
    · refine w.call (ok170 P) (u_negcn w o3 hp3 (up_t1 o3 hc) ?_)
      exact key
    · refine brP.mk (fun hc2 => ?_) (fun hc2 => ?_)
      · refine brP.mk (fun hc3 => ?_) (fun hc3 => ?_)
        · refine w.call (ok170 P) (u_negcn w o3 hp3 (up_t2 o3 hc2 hc3) ?_)
          exact key
        · have e := hp3.trans (cn_f (up_f2 o3 hc hc3)).symm
          subst e
          exact key
      · have e := hp3.trans (cn_f (up_f1 o3 hc hc2)).symm
        subst e
        exact key
  refine w.call (ok177 P) (u_stepW w (cn_ok o3) rfl ?_)
  refine w.call (ok198 P) (u_wayW w (cn_ok o3) rfl ?_)
  refine Gate.mk (fit_l fit8) (Gate.mk (fit_l fit2) (Gate.mk (fit_l ⟨by decide, by decide⟩) ?_))
  refine TidyS.by [34, 38, 41] [0, 11, 12, 13, 19] ⟨rfl, ren_chs, un_fnSame rfl rfl, un_fnSame rfl rfl, ren_wds, ?_⟩
  refine For.goN (n := n + 199) 32 w.base 60 (nxtP_el (c := cx w.base (n + 199)) ?_)
  refine TidyS.by [19, 20, 29, 24, 26, 28, 31, 30] [0, 11, 12, 13, 19] ⟨rfl, ren_chs, un_fnSame rfl rfl, un_fnSame rfl rfl, ren_wds, ?_⟩
  exact h _ _ _ _ _ _ _ _ _ _ _ _ _ _ _ _ _

end
end Mine

-- FILE X6
open PySem PySem.W PyProof.Rows
set_option Elab.async false
set_option autoImplicit false
set_option maxRecDepth 100000
namespace Mine
section
variable {W : Wd} {P : Params} {n : Nat} {H : List AO}
theorem Base.ext {gl : Str → Option Value} (h : Base W gl) {B' : Bs} (k : ∀ b o, W.B.get? b = some o → B'.get? b = some o) : Base { W with B := B' } gl :=
  ⟨h.g.keeps k, by obtain ⟨bl, e, q⟩ := h.b; exact ⟨bl, e.keeps k, q⟩, h.nolimit.keeps k, by obtain ⟨bm, o, e1, e2, e3, e4⟩ := h.mod; exact ⟨bm, o, e1, e2, k _ _ e3, e4⟩⟩
theorem Git.glst {pa : Addr} {xs : Array Value} {m k : Nat} {z : Value} {v : V} {Q : V → List AO → Prop} (ho : W.B.get? pa = some { cls := .type "list", data := .seq xs m }) (hz : xs[k]? = some z) (hv : ∀ ρ, v.Rel ρ z) (hk : k < 1000000) (h : Q v H) : Git W n H (.gref pa) (.int k) Q := fun ρ x y e ⟨t, e2⟩ A s r hs g => by
  have e : x = .ref pa := e
  subst e e2
  exact wpAny_getItem_list ⟨_, hs.keep _ _ ho, rfl, m, rfl⟩ (by lia) (by lia) (x := z) hz ⟨ρ, H, .refl hs, v, hv ρ, h⟩
/-- the law's lambda -/
noncomputable def ifT (s : Stmt) : Expr := if h : s.ctorIdx = 12 then Stmt.If.elim (motive_2 := fun _ => Expr) s h fun t _ _ _ => t else e0
noncomputable def cmpR (e : Expr) : Expr := if h : e.ctorIdx = 15 then Expr.Compare.elim (motive_1 := fun _ => Expr) e h fun _ _ rs _ => (match rs with | r :: _ => r | [] => e0) else e0
noncomputable def compI (e : Expr) : Expr := if h : e.ctorIdx = 8 then Expr.ListComp.elim (motive_1 := fun _ => Expr) e h fun _ gs _ _ => (match gs with | g :: _ => g.iter | [] => e0) else e0
noncomputable def lam217 (P : Params) : AFn := lamA (callKw (compI (cmpR (match (lawB P).drop 11 with | s :: _ => ifT s | [] => e0)))) ((ci P 217).qual ++ ".<locals>." ++ "<lambda>") []
set_option maxHeartbeats 0 in
theorem turn217 (w : Wo W P (glOf P)) {H : List AO} {p : Nat} {k : Int} {v : V} (hp : H[p]? = some (.lst [.int k, v])) : Turn W (n + 1) (lam217 P) H (.ref p) k := by
  refine ⟨p, v, rfl, hp, fun B' hk a pa o m t x ho hf hc hl => ?_⟩
  have hB := w.base.ext hk
  obtain ⟨c0, c00, fd, c1, c2, c3, c4, c5, c6, c7, c8, c9, c10, c11⟩ := hf
  have hcl : ∀ ρ, CellsRel ρ [] fd.closure := fun ρ => by
    have c11 : CellsRel [] [] fd.closure := c11
    cases h : fd.closure with
    | nil => trivial
    | cons q r => rw [h] at c11; exact c11.elim
  have hK : (hpK P).In B'.heap := fun a o h => hk _ _ (w.K a o h)
  refine Cl.fnE hB (.base (c := ⟨(lam217 P).params, (lam217 P).body, (lam217 P).scope, (lam217 P).qual, .none, .none, [], none⟩) ho c1 (fun ρ => ⟨c2, c3, c4, c5, c9, c10, hcl ρ, trivial, c7, c8⟩) (c5 ▸ hc fd c1)) (Bnd.p1 (n1 := "pair") hK (fun S x => by kernel_rfl)) rfl rfl rfl (cl := []) rfl rfl rfl rfl (Binds.go (Ev.go (n := n) hB 60 ?_))
  refine Raw.mk ⟨.glst hl rfl, Git.glst (k := 0) (v := .int k) hl rfl (fun ρ => ⟨t, rfl⟩) (by decide) ?_⟩
  exact rfl
theorem row_tr {late : Nat} (hl : late < 2) {x0 x1 x2 x3 : W3} (h0 : Cn x0) (h1 : Cn x1) (h2 : Cn x2) (h3 : Cn x3) :
    ∃ T : List Tr, rowX late x0 x1 x2 x3 = T.map (·.1) ∧ T.Pairwise (Tr.lt late) ∧ T.Perm [(x3, 3), (x2, 2), (x1, 1), (x0, 0)] := by
  obtain ⟨T0, e0, p0, q0⟩ := ins_step (T := []) (j := 0) hl (by decide) h0 (fun _ h => (nomatch h)) .nil
  obtain ⟨T1, e1, p1, q1⟩ := ins_step (T := T0) (j := 1) hl (by decide) h1 (fun e h => by
    have := q0.mem_iff.mp h
    simp only [List.mem_cons, List.not_mem_nil, or_false] at this
    subst this; exact ⟨h0, Nat.le_of_ble_eq_true rfl⟩) p0
  have q1 := q1.trans (.cons _ q0)
  obtain ⟨T2, e2, p2, q2⟩ := ins_step (T := T1) (j := 2) hl (by decide) h2 (fun e h => by
    have := q1.mem_iff.mp h
    simp only [List.mem_cons, List.not_mem_nil, or_false] at this
    rcases this with rfl | rfl
    · exact ⟨h1, Nat.le_of_ble_eq_true rfl⟩
    · exact ⟨h0, Nat.le_of_ble_eq_true rfl⟩) p1
  have q2 := q2.trans (.cons _ q1)
  obtain ⟨T3, e3, p3, q3⟩ := ins_step (T := T2) (j := 3) hl (by decide) h3 (fun e h => by
    have := q2.mem_iff.mp h
    simp only [List.mem_cons, List.not_mem_nil, or_false] at this
    rcases this with rfl | rfl | rfl
    · exact ⟨h2, Nat.le_of_ble_eq_true rfl⟩
    · exact ⟨h1, Nat.le_of_ble_eq_true rfl⟩
    · exact ⟨h0, Nat.le_of_ble_eq_true rfl⟩) p2
  refine ⟨T3, ?_, p3, q3.trans (.cons _ q2)⟩
  rw [← e3, ← e2, ← e1, ← e0]
  rfl
theorem due_row {late : Nat} (hl : late < 2) {x0 x1 x2 x3 : W3} (h0 : Cn x0) (h1 : Cn x1) (h2 : Cn x2) (h3 : Cn x3) {qs : List (Int × V)}
    (hp : qs.Perm ([keyW x0 0 late, keyW x1 1 late, keyW x2 2 late, keyW x3 3 late].zip [V.ref 22, V.ref 23, V.ref 24, V.ref 25])) (hw : qs.Pairwise (fun p q => p.1 ≤ q.1)) :
    ∃ T : List Tr, rowX late x0 x1 x2 x3 = T.map (·.1) ∧ T.Perm [(x3, 3), (x2, 2), (x1, 1), (x0, 0)] ∧ qs.map (·.2) = T.map fun e => V.ref (22 + e.2) := by
  obtain ⟨T, e, p, q⟩ := row_tr hl h0 h1 h2 h3
  refine ⟨T, e, q, ?_⟩
  have q' : (T.map fun e => (Tr.key late e, V.ref (22 + e.2))).Perm qs := by
    refine (q.map _).trans (List.Perm.trans ?_ hp.symm)
    exact (List.reverse_perm _).symm.trans (.refl _)
  have hd : ∀ a b : Int × V, a ∈ (T.map fun e => (Tr.key late e, V.ref (22 + e.2))) → b ∈ qs → a.1 ≤ b.1 → b.1 ≤ a.1 → a = b := fun a b ha hb h1 h2 => by
    have hb := q'.mem_iff.mpr hb
    obtain ⟨c, hc, rfl⟩ := List.mem_map.mp ha
    obtain ⟨d, hd, rfl⟩ := List.mem_map.mp hb
    have hk : Tr.key late c = Tr.key late d := Int.le_antisymm h1 h2
    obtain ⟨i, hi, rfl⟩ := List.getElem_of_mem hc
    obtain ⟨j, hj, rfl⟩ := List.getElem_of_mem hd
    rcases Nat.lt_trichotomy i j with h | h | h
    · have := List.pairwise_iff_getElem.mp p i j hi hj h
      unfold Tr.lt at this; lia
    · subst h; rfl
    · have := List.pairwise_iff_getElem.mp p j i hj hi h
      unfold Tr.lt at this; lia
  have := List.Perm.eq_of_pairwise (le := fun p q : Int × V => p.1 ≤ q.1) hd (by
    rw [List.pairwise_map]
    exact p.imp fun h => Int.le_of_lt h) hw q'
  rw [← this, List.map_map]
  rfl
theorem len4 {α : Type} {T : List α} (h : T.length = 4) : ∃ a b c d, T = [a, b, c, d] := by
  rcases T with _ | ⟨a, _ | ⟨b, _ | ⟨c, _ | ⟨d, _ | _⟩⟩⟩⟩ <;> first | exact ⟨_, _, _, _, rfl⟩ | cases h
theorem due4 {G : Prop} {late : Nat} (hl : late < 2) {x0 x1 x2 x3 : W3} (h0 : Cn x0) (h1 : Cn x1) (h2 : Cn x2) (h3 : Cn x3) {qs : List (Int × V)}
    (hp : qs.Perm ([keyW x0 0 late, keyW x1 1 late, keyW x2 2 late, keyW x3 3 late].zip [V.ref 22, V.ref 23, V.ref 24, V.ref 25])) (hw : qs.Pairwise (fun p q => p.1 ≤ q.1))
    (k : ∀ a b c d : Tr, (∀ e ∈ [a, b, c, d], e ∈ [(x3, 3), (x2, 2), (x1, 1), (x0, 0)]) → rowX late x0 x1 x2 x3 = [a.1, b.1, c.1, d.1] → qs.map (·.2) = [.ref (22 + a.2), .ref (22 + b.2), .ref (22 + c.2), .ref (22 + d.2)] → G) : G := by
  obtain ⟨T, e, q, r⟩ := due_row hl h0 h1 h2 h3 hp hw
  have hlen := q.length_eq
  obtain ⟨a, b, c, d, rfl⟩ := len4 hlen
  exact k a b c d (fun z hz => q.mem_iff.mp hz) e r
theorem at4 {H : List AO} {late : Nat} {x0 x1 x2 x3 : W3} (g0 : H[22]? = some (.lst [.int (keyW x0 0 late), .str x0.str])) (g1 : H[23]? = some (.lst [.int (keyW x1 1 late), .str x1.str])) (g2 : H[24]? = some (.lst [.int (keyW x2 2 late), .str x2.str])) (g3 : H[25]? = some (.lst [.int (keyW x3 3 late), .str x3.str]))
    {e : Tr} (he : e ∈ [(x3, 3), (x2, 2), (x1, 1), (x0, 0)]) : H[22 + e.2]? = some (.lst [.int (keyW e.1 e.2 late), .str e.1.str]) := by
  simp only [List.mem_cons, List.not_mem_nil, or_false] at he
  rcases he with rfl | rfl | rfl | rfl
  · exact g3
  · exact g2
  · exact g1
  · exact g0
theorem getK.mk {o : AO} {k : AO → Prop} : ∀ {H : List AO} {i : Nat}, H[i]? = some o → k o → getK H i k
  | [], _, e, _ => by cases e
  | a :: l, 0, e, h => by cases e; exact h
  | a :: l, i + 1, e, h => getK.mk (H := l) (i := i) e h
theorem seg7 (w : Wo W P (glOf P)) {us : Addr} {t0 t1 t2 t3 : Nat} {p0 p1 p2 p3 s0 s1 s2 s3 T : Str} {line : Int} {cs : List Nat} {late : Nat} (hl : late < 2) {word plain : Str} {r g b0 t l kk ac up i1 i2 i3 i4 : Int} {v1 v2 v3 v4 v5 v6 : UInt64} {x0 x1 x2 x3 : W3} (h0 : Cn x0) (h1 : Cn x1) (h2 : Cn x2) (h3 : Cn x3)
    (h : Exs W (n + 199) (lawAE P) (objs P us t0 t1 t2 t3 p0 p1 p2 p3 line cs (nsR T late kk word (nsV r g b0 t l v1 v2 v3 v4 v5 v6 21 plain ac up)) [.lst [.str s0, .str s1, .str s2, .str s3], .lst (wds (rowX late x0 x1 x2 x3)), .lst [.ref 22, .ref 23, .ref 24, .ref 25], .lst [.int i1, .int i2, .int i3, .int i4], .lst [.int (keyW x0 0 late), .str x0.str], .lst [.int (keyW x1 1 late), .str x1.str], .lst [.int (keyW x2 2 late), .str x2.str], .lst [.int (keyW x3 3 late), .str x3.str], .dict]) ((lawB P).drop 12) lawQ) :
    Exs W (n + 199) (lawAE P) (objs P us t0 t1 t2 t3 p0 p1 p2 p3 line cs (nsR T late kk word (nsV r g b0 t l v1 v2 v3 v4 v5 v6 21 plain ac up))
      [.lst [.str s0, .str s1, .str s2, .str s3], .lst (wds (rowX late x0 x1 x2 x3)), .lst [.ref 22, .ref 23, .ref 24, .ref 25], .lst [.int i1, .int i2, .int i3, .int i4], .lst [.int (keyW x0 0 late), .str x0.str], .lst [.int (keyW x1 1 late), .str x1.str], .lst [.int (keyW x2 2 late), .str x2.str], .lst [.int (keyW x3 3 late), .str x3.str], .dict]) ((lawB P).drop 11) lawQ := by
  refine law_seg 11 1 27 w.base rfl ?_
  refine Raw.mk ?_
  refine Ev.lambda' (f := lam217 P) w.base (w.coded (c := 216) (PP := 214) (by kernel_rfl) (by decide) (w.q214.trans (by kernel_rfl))) (by kernel_rfl) (fun _ => rfl) rfl rfl (by rfl) ?_
  refine Raw.mk ?_
  refine Cl.sorted (n := n + 198) (l := 20) (fi := 27) (dd := 26) (f := lam217 P) (kz := [keyW x0 0 late, keyW x1 1 late, keyW x2 2 late, keyW x3 3 late]) rfl rfl rfl rfl rfl rfl (by decide) (fun i u k hu hk => ?_) (fun qs hperm hpw => ?_)
  · match i, hu, hk with
    | 0, hu, hk => cases hu; cases hk; exact turn217 (n := n + 197) w rfl
    | 1, hu, hk => cases hu; cases hk; exact turn217 (n := n + 197) w rfl
    | 2, hu, hk => cases hu; cases hk; exact turn217 (n := n + 197) w rfl
    | 3, hu, hk => cases hu; cases hk; exact turn217 (n := n + 197) w rfl
  refine due4 hl h0 h1 h2 h3 hperm hpw fun a b c d hm eR eq => ?_
  rw [eq]
  refine getK.mk (i := 22 + a.2) (at4 rfl rfl rfl rfl (hm a (by simp))) ?_
  refine getK.mk (i := 22 + b.2) (at4 rfl rfl rfl rfl (hm b (by simp))) ?_
  refine getK.mk (i := 22 + c.2) (at4 rfl rfl rfl rfl (hm c (by simp))) ?_
  refine getK.mk (i := 22 + d.2) (at4 rfl rfl rfl rfl (hm d (by simp))) ?_
  have ew : wds (rowX late x0 x1 x2 x3) = [a.1.str, b.1.str, c.1.str, d.1.str].map V.str := by rw [eR]; rfl
  refine Raw.mk ?_
  refine Cmp.neL (congrArg (fun l => some (AO.lst l)) ew) rfl rfl (VEq.strs (l := [a.1.str, b.1.str, c.1.str, d.1.str])) ?_
  refine TidyS.by [] [0, 11, 12, 13, 19] ⟨rfl, ren_chs, un_fnSame rfl rfl, un_fnSame rfl rfl, ren_wds, ?_⟩
  exact h
end
end Mine

-- FILE X7
open PySem PySem.W PyProof.Rows
set_option Elab.async false
set_option autoImplicit false
set_option maxRecDepth 100000
namespace Mine
noncomputable def jkm : List Bool → List AO → List AO
  | [], H => H
  | _, [] => []
  | b :: m, o :: H => (match b with | true => .junk | false => o) :: jkm m H
theorem jkm_len : ∀ {m : List Bool} {H : List AO}, (jkm m H).length = H.length
  | [], _ => rfl
  | _ :: _, [] => rfl
  | _ :: m, _ :: H => congrArg (· + 1) (jkm_len (m := m) (H := H))
theorem jkm_get : ∀ {m : List Bool} {H : List AO} {i : Nat} {o : AO}, (jkm m H)[i]? = some o → ∃ o', H[i]? = some o' ∧ (o = .junk ∨ o = o')
  | [], _, _, o, e => ⟨o, e, .inr rfl⟩
  | _ :: _, [], _, _, e => nomatch e
  | true :: _, a :: _, 0, _, e => ⟨a, rfl, .inl (by cases e; rfl)⟩
  | false :: _, a :: _, 0, _, e => ⟨a, rfl, .inr (by cases e; rfl)⟩
  | b :: m, a :: H, i + 1, o, e => jkm_get (m := m) (H := H) (i := i) e
section
variable {W : Wd} {P : Params} {n : Nat} {H : List AO} {ae : AE}
theorem HS.jkm {B : Bs} {ρ : Rho} {h : Heap} (m : List Bool) (hs : HS B ρ H h) : HS B ρ (jkm m H) h :=
  ⟨hs.keep, hs.len.trans jkm_len.symm, hs.nodup, hs.fresh, fun i a o e1 e2 => by
    obtain ⟨o', e3, e4⟩ := jkm_get e2
    obtain ⟨x, k1, k2, k3⟩ := hs.ent i a o' e1 e3
    rcases e4 with rfl | rfl
    · exact ⟨x, k1, trivial, trivial⟩
    · exact ⟨x, k1, k2, k3⟩, hs.tabs⟩
/-- objects that nobody reads any more -/
theorem Exs.jkm (m : List Bool) {b : List Stmt} {Q : Fl → List AO → Prop} (h : Exs W n ae (jkm m H) b Q) : Exs W n ae H b Q := fun ρ env E A s r hs g => h ρ env E A s r (hs.jkm m) g
end
/-- the names that nobody reads any more -/
structure NE where
  T : Str
  late : Nat
  k : Int
  r : Int
  g : Int
  b : Int
  t : Int
  l : Int
  v1 : UInt64
  v2 : UInt64
  v3 : UInt64
  v4 : UInt64
  v5 : UInt64
  v6 : UInt64
  plain : Str
noncomputable def nsE (e : NE) (word : Str) (ac up : Int) (more : List (Str × V)) : List (Str × V) := ⟨"text", .str e.T⟩ :: ⟨"heard", .ref 18⟩ :: ⟨"late", .int e.late⟩ :: ⟨"row", .ref 19⟩ :: ⟨"due", .ref 20⟩ :: ⟨"k", .int e.k⟩ :: ⟨"word", .str word⟩ ::
  ⟨"red", .int e.r⟩ :: ⟨"green", .int e.g⟩ :: ⟨"blue", .int e.b⟩ :: ⟨"top", .int e.t⟩ :: ⟨"low", .int e.l⟩ :: ⟨"hue", .flt e.v1⟩ :: ⟨"light", .flt e.v2⟩ :: ⟨"pure", .flt e.v3⟩ :: ⟨"other", .flt e.v4⟩ :: ⟨"share", .flt e.v5⟩ :: ⟨"value", .flt e.v6⟩ :: ⟨"told", .ref 21⟩ :: ⟨"plain", .str e.plain⟩ :: ⟨"across", .int ac⟩ :: ⟨"up", .int up⟩ :: more
noncomputable def lawS (P : Params) (line : Int) (cs : List Nat) (pb : List Str) (m : List (Str × V)) (c7 : AO) (G : List AO) : List AO := .junk :: .ns m :: .junk :: .junk :: .junk :: .junk :: .cell (some (.ref 16)) :: c7 :: .junk :: .junk ::
  .cell (some (.ref 11)) :: .lst (chs cs) :: .fn (strmF P (some 14)) :: .fn (readF P [("signs", 10)]) :: .ns [("read", .ref 13)] :: .ns [("lineno", .int line), ("instream", .ref 12), ("whitespace", .str "\n\t\r "), ("pushback", .ref 17)] :: .inst 144 15 :: .lst (tks pb) :: .junk :: G
section
variable {W : Wd} {P : Params} {n : Nat} {H : List AO} {ae : AE}
theorem seg8a {us : Addr} {t0 t1 t2 t3 : Nat} {p0 p1 p2 p3 s0 s1 s2 s3 T : Str} {line : Int} {cs : List Nat} {late : Nat} {word plain : Str} {r g b0 t l kk ac up i1 i2 i3 i4 : Int} {v1 v2 v3 v4 v5 v6 : UInt64} {x0 x1 x2 x3 : AO} {R : List V} {q0 q1 q2 q3 : Str} (hR : R = [.str q0, .str q1, .str q2, .str q3])
    (h : ∀ e : NE, e.T = T → Exs W (n + 199) (lawAE P) (lawS P line cs [] (nsE e word ac up []) (.cell none) [.lst [.str q0, .str q1, .str q2, .str q3], .junk, .junk, .junk, .junk, .junk, .junk, .junk]) ((lawB P).drop 12) lawQ) :
    Exs W (n + 199) (lawAE P) (objs P us t0 t1 t2 t3 p0 p1 p2 p3 line cs (nsR T late kk word (nsV r g b0 t l v1 v2 v3 v4 v5 v6 21 plain ac up)) [.lst [.str s0, .str s1, .str s2, .str s3], .lst R, .lst [.ref 22, .ref 23, .ref 24, .ref 25], .lst [.int i1, .int i2, .int i3, .int i4], x0, x1, x2, x3, .dict]) ((lawB P).drop 12) lawQ := by
  subst hR
  refine Exs.jkm [true, false, true, true, true, true, false, false, true, true, false, false, false, false, false, false, false, false, true, false, true, true, true, true, true, true, true] ?_
  exact h ⟨T, late, kk, r, g, b0, t, l, v1, v2, v3, v4, v5, v6, plain⟩ rfl
theorem seg8 (w : Wo W P (glOf P)) {line : Int} {cs : List Nat} {word : Str} {e : NE} {ac up : Int} {q0 q1 q2 q3 : Str}
    (h : Exs W (n + 199) (lawAE P) (lawS P line cs [q0, q1, q2, q3] (nsE e q3 ac up []) (.cell none) [.lst [.str q0, .str q1, .str q2, .str q3], .junk, .junk, .junk, .junk, .junk, .junk, .junk]) ((lawB P).drop 13) lawQ) :
    Exs W (n + 199) (lawAE P) (lawS P line cs [] (nsE e word ac up []) (.cell none) [.lst [.str q0, .str q1, .str q2, .str q3], .junk, .junk, .junk, .junk, .junk, .junk, .junk]) ((lawB P).drop 12) lawQ := by
  refine law_seg 12 1 27 w.base rfl ?_
  refine Raw.mk (For.goN (n := n + 199) 28 w.base 60 (nxtP_el (c := cx w.base (n + 199)) ?_))
  refine Raw.mk (Met.inst w.K (cls144 P) rfl rfl rfl (f_push P) (y_push P) ?_)
  refine w.call (ok141 P) (u_push (n := n + 197) (pb := []) (t := q0) w (Nat.le_of_ble_eq_true rfl) ?_)
  refine TidyS.by [] [11, 12, 13, 17] ⟨ren_chs, un_fnSame rfl rfl, un_fnSame rfl rfl, ren_tks, ?_⟩
  refine For.goN (n := n + 199) 28 w.base 60 (nxtP_el (c := cx w.base (n + 199)) ?_)
  refine Raw.mk (Met.inst w.K (cls144 P) rfl rfl rfl (f_push P) (y_push P) ?_)
  refine w.call (ok141 P) (u_push (n := n + 197) (pb := [q0]) (t := q1) w (Nat.le_of_ble_eq_true rfl) ?_)
  refine TidyS.by [] [11, 12, 13, 17] ⟨ren_chs, un_fnSame rfl rfl, un_fnSame rfl rfl, ren_tks, ?_⟩
  refine For.goN (n := n + 199) 28 w.base 60 (nxtP_el (c := cx w.base (n + 199)) ?_)
  refine Raw.mk (Met.inst w.K (cls144 P) rfl rfl rfl (f_push P) (y_push P) ?_)
  refine w.call (ok141 P) (u_push (n := n + 197) (pb := [q0, q1]) (t := q2) w (Nat.le_of_ble_eq_true rfl) ?_)
  refine TidyS.by [] [11, 12, 13, 17] ⟨ren_chs, un_fnSame rfl rfl, un_fnSame rfl rfl, ren_tks, ?_⟩
  refine For.goN (n := n + 199) 28 w.base 60 (nxtP_el (c := cx w.base (n + 199)) ?_)
  refine Raw.mk (Met.inst w.K (cls144 P) rfl rfl rfl (f_push P) (y_push P) ?_)
  refine w.call (ok141 P) (u_push (n := n + 197) (pb := [q0, q1, q2]) (t := q3) w (Nat.le_of_ble_eq_true rfl) ?_)
  refine TidyS.by [] [11, 12, 13, 17] ⟨ren_chs, un_fnSame rfl rfl, un_fnSame rfl rfl, ren_tks, ?_⟩
  refine For.goN (n := n + 199) 28 w.base 60 (nxtP_el (c := cx w.base (n + 199)) ?_)
  exact TidyS.by [] [11, 12, 13, 17] ⟨ren_chs, un_fnSame rfl rfl, un_fnSame rfl rfl, ren_tks, h⟩
end
end Mine

-- FILE X8
open PySem PySem.W PyProof.Rows
set_option Elab.async false
set_option autoImplicit false
set_option maxRecDepth 100000
namespace Mine
theorem fit1 : Fits 1 := ⟨by decide, by decide⟩
theorem fitm1 : Fits (-1) := ⟨by decide, by decide⟩
noncomputable def st (s x a : Int) : Int := x + s * a
noncomputable def lsp (x y : Int) : AO := .lst [.int x, .int y]
/-- the row, the due list's remains, then the corners and the rims -/
noncomputable def rimsG (q0 q1 q2 q3 : Str) (x1 y1 x2 y2 x3 y3 x4 y4 x5 y5 x6 y6 x7 y7 x8 y8 : Int) : List AO := [.lst [.str q0, .str q1, .str q2, .str q3], .junk, .junk, .junk, .junk, .junk, .junk, .junk, lsp 0 0, .lst [.ref 29, .ref 34], .lst [.ref 27, .ref 30, .ref 31, .ref 32, .ref 33], lsp x1 y1, lsp x2 y2, lsp x3 y3, lsp x4 y4, .lst [.ref 33, .ref 35, .ref 36, .ref 37, .ref 38], lsp x5 y5, lsp x6 y6, lsp x7 y7, lsp x8 y8]
section
variable {W : Wd} {P : Params} {n : Nat} {H : List AO} {ae : AE}
theorem bne_str (q : Str) : (q.cps.toList != q.cps.toList) = false := by simp
set_option maxHeartbeats 4000000 in
theorem seg9 (w : Wo W P (glOf P)) {line : Int} {cs : List Nat} {word : Str} {e : NE} {ac up : Int} {q0 q1 q2 q3 : Str} {y0 y1 y2 y3 : W3} (o0 : y0.ok) (o1 : y1.ok) (o2 : y2.ok) (o3 : y3.ok) (h0 : q0 = y0.str) (h1 : q1 = y1.str) (h2 : q2 = y2.str) (h3 : q3 = y3.str)
    (h : Exs W (n + 199) (lawAE P) (lawS P line cs [q0, q1, q2, q3] (nsE e q3 (stpX y3) (stpY y3) [⟨"spot", .ref 38⟩, ⟨"rims", .ref 28⟩, ⟨"side", .int (-1)⟩, ⟨"rim", .ref 34⟩, ⟨"wished", .str q3⟩]) (.cell none)
      (rimsG q0 q1 q2 q3 (st 1 0 (stpX y0)) (st 1 0 (stpY y0)) (st 1 (st 1 0 (stpX y0)) (stpX y1)) (st 1 (st 1 0 (stpY y0)) (stpY y1)) (st 1 (st 1 (st 1 0 (stpX y0)) (stpX y1)) (stpX y2)) (st 1 (st 1 (st 1 0 (stpY y0)) (stpY y1)) (stpY y2)) (st 1 (st 1 (st 1 (st 1 0 (stpX y0)) (stpX y1)) (stpX y2)) (stpX y3)) (st 1 (st 1 (st 1 (st 1 0 (stpY y0)) (stpY y1)) (stpY y2)) (stpY y3)) (st (-1) (st 1 (st 1 (st 1 (st 1 0 (stpX y0)) (stpX y1)) (stpX y2)) (stpX y3)) (stpX y0)) (st (-1) (st 1 (st 1 (st 1 (st 1 0 (stpY y0)) (stpY y1)) (stpY y2)) (stpY y3)) (stpY y0)) (st (-1) (st (-1) (st 1 (st 1 (st 1 (st 1 0 (stpX y0)) (stpX y1)) (stpX y2)) (stpX y3)) (stpX y0)) (stpX y1)) (st (-1) (st (-1) (st 1 (st 1 (st 1 (st 1 0 (stpY y0)) (stpY y1)) (stpY y2)) (stpY y3)) (stpY y0)) (stpY y1)) (st (-1) (st (-1) (st (-1) (st 1 (st 1 (st 1 (st 1 0 (stpX y0)) (stpX y1)) (stpX y2)) (stpX y3)) (stpX y0)) (stpX y1)) (stpX y2)) (st (-1) (st (-1) (st (-1) (st 1 (st 1 (st 1 (st 1 0 (stpY y0)) (stpY y1)) (stpY y2)) (stpY y3)) (stpY y0)) (stpY y1)) (stpY y2)) (st (-1) (st (-1) (st (-1) (st (-1) (st 1 (st 1 (st 1 (st 1 0 (stpX y0)) (stpX y1)) (stpX y2)) (stpX y3)) (stpX y0)) (stpX y1)) (stpX y2)) (stpX y3)) (st (-1) (st (-1) (st (-1) (st (-1) (st 1 (st 1 (st 1 (st 1 0 (stpY y0)) (stpY y1)) (stpY y2)) (stpY y3)) (stpY y0)) (stpY y1)) (stpY y2)) (stpY y3)))) ((lawB P).drop 16) lawQ) :
    Exs W (n + 199) (lawAE P) (lawS P line cs [q0, q1, q2, q3] (nsE e word ac up []) (.cell none) [.lst [.str q0, .str q1, .str q2, .str q3], .junk, .junk, .junk, .junk, .junk, .junk, .junk]) ((lawB P).drop 13) lawQ := by
  refine law_seg 13 3 27 w.base rfl ?_
  refine Raw.mk (For.goN (n := n + 199) 31 w.base 60 (nxtP_el (c := cx w.base (n + 199)) ?_))
  refine Raw.mk (For.goN (n := n + 199) 33 w.base 60 (nxtP_el (c := cx w.base (n + 199)) ?_))
  refine Raw.mk (Met.inst w.K (cls144 P) rfl rfl rfl (f_get P) (y_get P) ?_)
  refine w.call (ok134 P) (u_tokP (n := n + 197) (pb := [q1, q2, q3]) (t := q0) w (Nat.le_of_ble_eq_true rfl) ?_)
  refine brP.f (bne_str q0) ?_
  refine Raw.mk (Met.inst w.K (cls144 P) rfl rfl rfl (f_push P) (y_push P) ?_)
  refine w.call (ok141 P) (u_push (n := n + 197) (pb := [q1, q2, q3]) (t := q0) w (Nat.le_of_ble_eq_true rfl) ?_)
  refine w.call (ok177 P) (u_stepW w o0 h0 ?_)
  refine Gate.mk (fit_l fit1) (Gate.mk (fit_l fit1) ?_)
  refine TidyS.by [34] [11, 12, 13, 17] ⟨ren_chs, un_fnSame rfl rfl, un_fnSame rfl rfl, ren_tks, ?_⟩
  refine For.goN (n := n + 199) 34 w.base 60 (nxtP_el (c := cx w.base (n + 199)) ?_)
  refine Raw.mk (Met.inst w.K (cls144 P) rfl rfl rfl (f_get P) (y_get P) ?_)
  refine w.call (ok134 P) (u_tokP (n := n + 197) (pb := [q2, q3, q0]) (t := q1) w (Nat.le_of_ble_eq_true rfl) ?_)
  refine brP.f (bne_str q1) ?_
  refine Raw.mk (Met.inst w.K (cls144 P) rfl rfl rfl (f_push P) (y_push P) ?_)
  refine w.call (ok141 P) (u_push (n := n + 197) (pb := [q2, q3, q0]) (t := q1) w (Nat.le_of_ble_eq_true rfl) ?_)
  refine w.call (ok177 P) (u_stepW w o1 h1 ?_)
  refine Gate.mk (fit_l fit1) (Gate.mk (fit_l fit1) ?_)
  refine TidyS.by [35] [11, 12, 13, 17] ⟨ren_chs, un_fnSame rfl rfl, un_fnSame rfl rfl, ren_tks, ?_⟩
  refine For.goN (n := n + 199) 35 w.base 60 (nxtP_el (c := cx w.base (n + 199)) ?_)
  refine Raw.mk (Met.inst w.K (cls144 P) rfl rfl rfl (f_get P) (y_get P) ?_)
  refine w.call (ok134 P) (u_tokP (n := n + 197) (pb := [q3, q0, q1]) (t := q2) w (Nat.le_of_ble_eq_true rfl) ?_)
  refine brP.f (bne_str q2) ?_
  refine Raw.mk (Met.inst w.K (cls144 P) rfl rfl rfl (f_push P) (y_push P) ?_)
  refine w.call (ok141 P) (u_push (n := n + 197) (pb := [q3, q0, q1]) (t := q2) w (Nat.le_of_ble_eq_true rfl) ?_)
  refine w.call (ok177 P) (u_stepW w o2 h2 ?_)
  refine Gate.mk (fit_l fit1) (Gate.mk (fit_l fit1) ?_)
  refine TidyS.by [36] [11, 12, 13, 17] ⟨ren_chs, un_fnSame rfl rfl, un_fnSame rfl rfl, ren_tks, ?_⟩
  refine For.goN (n := n + 199) 36 w.base 60 (nxtP_el (c := cx w.base (n + 199)) ?_)
  refine Raw.mk (Met.inst w.K (cls144 P) rfl rfl rfl (f_get P) (y_get P) ?_)
  refine w.call (ok134 P) (u_tokP (n := n + 197) (pb := [q0, q1, q2]) (t := q3) w (Nat.le_of_ble_eq_true rfl) ?_)
  refine brP.f (bne_str q3) ?_
  refine Raw.mk (Met.inst w.K (cls144 P) rfl rfl rfl (f_push P) (y_push P) ?_)
  refine w.call (ok141 P) (u_push (n := n + 197) (pb := [q0, q1, q2]) (t := q3) w (Nat.le_of_ble_eq_true rfl) ?_)
  refine w.call (ok177 P) (u_stepW w o3 h3 ?_)
  refine Gate.mk (fit_l fit1) (Gate.mk (fit_l fit1) ?_)
  refine TidyS.by [37] [11, 12, 13, 17] ⟨ren_chs, un_fnSame rfl rfl, un_fnSame rfl rfl, ren_tks, ?_⟩
  refine For.goN (n := n + 199) 37 w.base 60 (nxtP_el (c := cx w.base (n + 199)) ?_)
  refine TidyS.by [31, 33, 34, 35, 36] [11, 12, 13, 17] ⟨ren_chs, un_fnSame rfl rfl, un_fnSame rfl rfl, ren_tks, ?_⟩
  refine For.goN (n := n + 199) 36 w.base 60 (nxtP_el (c := cx w.base (n + 199)) ?_)
  refine Raw.mk (For.goN (n := n + 199) 38 w.base 60 (nxtP_el (c := cx w.base (n + 199)) ?_))
  refine Raw.mk (Met.inst w.K (cls144 P) rfl rfl rfl (f_get P) (y_get P) ?_)
  refine w.call (ok134 P) (u_tokP (n := n + 197) (pb := [q1, q2, q3]) (t := q0) w (Nat.le_of_ble_eq_true rfl) ?_)
  refine brP.f (bne_str q0) ?_
  refine Raw.mk (Met.inst w.K (cls144 P) rfl rfl rfl (f_push P) (y_push P) ?_)
  refine w.call (ok141 P) (u_push (n := n + 197) (pb := [q1, q2, q3]) (t := q0) w (Nat.le_of_ble_eq_true rfl) ?_)
  refine w.call (ok177 P) (u_stepW w o0 h0 ?_)
  refine Gate.mk (fit_l fitm1) (Gate.mk (fit_l fitm1) ?_)
  refine TidyS.by [39] [11, 12, 13, 17] ⟨ren_chs, un_fnSame rfl rfl, un_fnSame rfl rfl, ren_tks, ?_⟩
  refine For.goN (n := n + 199) 39 w.base 60 (nxtP_el (c := cx w.base (n + 199)) ?_)
  refine Raw.mk (Met.inst w.K (cls144 P) rfl rfl rfl (f_get P) (y_get P) ?_)
  refine w.call (ok134 P) (u_tokP (n := n + 197) (pb := [q2, q3, q0]) (t := q1) w (Nat.le_of_ble_eq_true rfl) ?_)
  refine brP.f (bne_str q1) ?_
  refine Raw.mk (Met.inst w.K (cls144 P) rfl rfl rfl (f_push P) (y_push P) ?_)
  refine w.call (ok141 P) (u_push (n := n + 197) (pb := [q2, q3, q0]) (t := q1) w (Nat.le_of_ble_eq_true rfl) ?_)
  refine w.call (ok177 P) (u_stepW w o1 h1 ?_)
  refine Gate.mk (fit_l fitm1) (Gate.mk (fit_l fitm1) ?_)
  refine TidyS.by [40] [11, 12, 13, 17] ⟨ren_chs, un_fnSame rfl rfl, un_fnSame rfl rfl, ren_tks, ?_⟩
  refine For.goN (n := n + 199) 40 w.base 60 (nxtP_el (c := cx w.base (n + 199)) ?_)
  refine Raw.mk (Met.inst w.K (cls144 P) rfl rfl rfl (f_get P) (y_get P) ?_)
  refine w.call (ok134 P) (u_tokP (n := n + 197) (pb := [q3, q0, q1]) (t := q2) w (Nat.le_of_ble_eq_true rfl) ?_)
  refine brP.f (bne_str q2) ?_
  refine Raw.mk (Met.inst w.K (cls144 P) rfl rfl rfl (f_push P) (y_push P) ?_)
  refine w.call (ok141 P) (u_push (n := n + 197) (pb := [q3, q0, q1]) (t := q2) w (Nat.le_of_ble_eq_true rfl) ?_)
  refine w.call (ok177 P) (u_stepW w o2 h2 ?_)
  refine Gate.mk (fit_l fitm1) (Gate.mk (fit_l fitm1) ?_)
  refine TidyS.by [41] [11, 12, 13, 17] ⟨ren_chs, un_fnSame rfl rfl, un_fnSame rfl rfl, ren_tks, ?_⟩
  refine For.goN (n := n + 199) 41 w.base 60 (nxtP_el (c := cx w.base (n + 199)) ?_)
  refine Raw.mk (Met.inst w.K (cls144 P) rfl rfl rfl (f_get P) (y_get P) ?_)
  refine w.call (ok134 P) (u_tokP (n := n + 197) (pb := [q0, q1, q2]) (t := q3) w (Nat.le_of_ble_eq_true rfl) ?_)
  refine brP.f (bne_str q3) ?_
  refine Raw.mk (Met.inst w.K (cls144 P) rfl rfl rfl (f_push P) (y_push P) ?_)
  refine w.call (ok141 P) (u_push (n := n + 197) (pb := [q0, q1, q2]) (t := q3) w (Nat.le_of_ble_eq_true rfl) ?_)
  refine w.call (ok177 P) (u_stepW w o3 h3 ?_)
  refine Gate.mk (fit_l fitm1) (Gate.mk (fit_l fitm1) ?_)
  refine TidyS.by [42] [11, 12, 13, 17] ⟨ren_chs, un_fnSame rfl rfl, un_fnSame rfl rfl, ren_tks, ?_⟩
  refine For.goN (n := n + 199) 42 w.base 60 (nxtP_el (c := cx w.base (n + 199)) ?_)
  refine TidyS.by [36, 38, 39, 40, 41] [11, 12, 13, 17] ⟨ren_chs, un_fnSame rfl rfl, un_fnSame rfl rfl, ren_tks, ?_⟩
  refine For.goN (n := n + 199) 41 w.base 60 (nxtP_el (c := cx w.base (n + 199)) ?_)
  exact TidyS.by [27, 28, 31, 32, 33, 34, 35, 36, 37, 38, 39, 40] [11, 12, 13, 17] ⟨ren_chs, un_fnSame rfl rfl, un_fnSame rfl rfl, ren_tks, h⟩
end
end Mine

-- FILE X9
open PySem PySem.W PyProof.Rows
set_option Elab.async false
set_option autoImplicit false
set_option maxRecDepth 100000
namespace Mine
section
variable {W : Wd} {P : Params} {n : Nat} {H : List AO} {ae : AE}
set_option maxHeartbeats 4000000 in
theorem seg10 (w : Wo W P (glOf P)) {line : Int} {u : Nat} {m : List (Str × V)} {e : NE} {ac up : Int} {q0 q1 q2 q3 : Str} {x1 y1 x2 y2 x3 y3 x4 y4 x5 y5 x6 y6 x7 y7 x8 y8 : Int} (hc : line = 1 + Txt.count e.T (Str.ofString "\n"))
    (hm : m = [⟨"spot", .ref 38⟩, ⟨"rims", .ref 28⟩, ⟨"side", .int (-1)⟩, ⟨"rim", .ref 34⟩, ⟨"wished", .str q3⟩])
    (h : Exs W (n + 199) (lawAE P) (lawS P line [] [] (nsE e q3 ac up m) (.cell none) (rimsG q0 q1 q2 q3 x1 y1 x2 y2 x3 y3 x4 y4 x5 y5 x6 y6 x7 y7 x8 y8)) ((lawB P).drop 17) lawQ) :
    Exs W (n + 199) (lawAE P) (lawS P line (post u ++ [101, 110, 100]) [q0, q1, q2, q3] (nsE e q3 ac up m) (.cell none) (rimsG q0 q1 q2 q3 x1 y1 x2 y2 x3 y3 x4 y4 x5 y5 x6 y6 x7 y7 x8 y8)) ((lawB P).drop 16) lawQ := by
  subst hm
  refine law_seg 16 1 39 w.base rfl ?_
  refine Raw.mk (Met.inst w.K (cls144 P) rfl rfl rfl (f_get P) (y_get P) ?_)
  refine w.call (ok134 P) (u_tokP (n := n + 197) (pb := [q1, q2, q3]) (t := q0) w (Nat.le_of_ble_eq_true rfl) ?_)
  refine Raw.mk (Met.inst w.K (cls144 P) rfl rfl rfl (f_get P) (y_get P) ?_)
  refine w.call (ok134 P) (u_tokP (n := n + 197) (pb := [q2, q3]) (t := q1) w (Nat.le_of_ble_eq_true rfl) ?_)
  refine Raw.mk (Met.inst w.K (cls144 P) rfl rfl rfl (f_get P) (y_get P) ?_)
  refine w.call (ok134 P) (u_tokP (n := n + 197) (pb := [q3]) (t := q2) w (Nat.le_of_ble_eq_true rfl) ?_)
  refine Raw.mk (Met.inst w.K (cls144 P) rfl rfl rfl (f_get P) (y_get P) ?_)
  refine w.call (ok134 P) (u_tokP (n := n + 197) (pb := []) (t := q3) w (Nat.le_of_ble_eq_true rfl) ?_)
  refine Raw.mk (Met.inst w.K (cls144 P) rfl rfl rfl (f_get P) (y_get P) ?_)
  refine w.call (ok134 P) (u_tokS (N := n + 199) w (c_tok (n := n + 193) (pre := post u) w (.e (line := line)) post_13.1 (Nat.le_trans post_13.2 (by decide)) (by decide)) ?_)
  refine Raw.mk (Met.inst w.K (cls144 P) rfl rfl rfl (f_get P) (y_get P) ?_)
  refine w.call (ok134 P) (u_tokS (N := n + 199) w (c_tok (n := n + 193) (pre := []) w (.z (line := line)) (fun _ h => (nomatch h)) (by decide) (by decide)) ?_)
  refine Raw.mk (Bin.addL rfl rfl (Nat.le_of_ble_eq_true rfl) ?_)
  obtain ⟨z, hz⟩ : ∃ z, z = false := ⟨_, rfl⟩
  refine Raw.mk ?_
  refine Cmp.neZ hz rfl rfl rfl (VEq.strs (l := [q0, q1, q2, q3, "end", ""])) ?_
  refine brP.f hz ?_
  refine Raw.mk (Gat.inst w.K (cls144 P) rfl rfl rfl (f_lineno P) rfl ?_)
  refine brP.f (show (line != 1 + Txt.count e.T (Str.ofString "\n")) = false by rw [← hc]; simp) ?_
  exact TidyS.by [] [11, 12, 13, 17] ⟨ren_chs, un_fnSame rfl rfl, un_fnSame rfl rfl, ren_tks, h⟩
end
end Mine

-- FILE X10
open PySem PySem.W PyProof.Rows
set_option Elab.async false
set_option autoImplicit false
set_option maxRecDepth 100000
namespace Mine
noncomputable def dt (a b c d : Int) : Int := if a * d - b * c < 0 then -(a * d - b * c) else a * d - b * c
noncomputable def crs (a0 b0 a1 b1 a2 b2 a3 b3 : Int) : Int := [dt a0 b0 a1 b1, dt a0 b0 a2 b2, dt a1 b1 a2 b2, dt a0 b0 a3 b3, dt a1 b1 a3 b3, dt a2 b2 a3 b3].sum
theorem stp_small {y : W3} (o : y.ok) : (stpX y).natAbs < 4 ∧ (stpY y).natAbs < 4 := by
  obtain ⟨h1, h2, h3⟩ := o
  unfold stpX stpY
  omega
theorem fitX {y : W3} (o : y.ok) : Fits (stpX y) := by
  have := (stp_small o).1
  exact ⟨by omega, by omega⟩
theorem fitY {y : W3} (o : y.ok) : Fits (stpY y) := by
  have := (stp_small o).2
  exact ⟨by omega, by omega⟩
noncomputable def stepG (x1 y1 x2 y2 x3 y3 x4 y4 : Int) : List AO := [.lst [.ref 40, .ref 41, .ref 42, .ref 43, .ref 44], lsp x1 y1, lsp x2 y2, lsp x3 y3, lsp x4 y4, lsp 0 1]
section
variable {W : Wd} {P : Params} {n : Nat} {H : List AO} {ae : AE}
theorem u_measW (w : Wo W P (glOf P)) {x : W3} {i : Nat} {Q : V → List AO → Prop} (o : x.ok) (hi : H[i]? = some (.lst [.int (stpX x), .int (stpY x)])) (k : Q (.int (meas 4 (stpX x) (stpY x))) H) : Cl W (n + 106) H (.gref 205) [.ref i] [] [] Q :=
  u_measure w (Nat.lt_trans (stp_small o).1 (by decide)) (Nat.lt_trans (stp_small o).2 (by decide)) (stp_small o).2 hi k
set_option maxHeartbeats 4000000 in
theorem seg11 (w : Wo W P (glOf P)) {line : Int} {e : NE} {ac up : Int} {q0 q1 q2 q3 : Str} {y0 y1 y2 y3 : W3} (o0 : y0.ok) (o1 : y1.ok) (o2 : y2.ok) (o3 : y3.ok) (h0 : q0 = y0.str) (h1 : q1 = y1.str) (h2 : q2 = y2.str) (h3 : q3 = y3.str) {m : List (Str × V)}
    (hm : m = [⟨"spot", .ref 38⟩, ⟨"rims", .ref 28⟩, ⟨"side", .int (-1)⟩, ⟨"rim", .ref 34⟩, ⟨"wished", .str q3⟩])
    {X1 Y1 X2 Y2 X3 Y3 X4 Y4 X5 Y5 X6 Y6 X7 Y7 X8 Y8 : Int}
    (h : ∀ me cr : Int, me = [meas 4 (stpX y0) (stpY y0), meas 4 (stpX y1) (stpY y1), meas 4 (stpX y2) (stpY y2), meas 4 (stpX y3) (stpY y3)].sum → cr = crs (stpX y0) (stpY y0) (stpX y1) (stpY y1) (stpX y2) (stpY y2) (stpX y3) (stpY y3) →
      Exs W (n + 199) (lawAE P) (lawS P line [] [] (nsE e q3 ac up [⟨"spot", .ref 38⟩, ⟨"rims", .ref 28⟩, ⟨"side", .int (-1)⟩, ⟨"rim", .ref 34⟩, ⟨"wished", .str q3⟩, ⟨"measures", .int me⟩, ⟨"crossed", .int cr⟩, ⟨"height", .int Y4⟩, ⟨"points", .int 0⟩, ⟨"inner", .int 0⟩, ⟨"below", .int 0⟩, ⟨"whole", .int 0⟩]) (.cell (some (.ref 39)))
        (rimsG q0 q1 q2 q3 X1 Y1 X2 Y2 X3 Y3 X4 Y4 X5 Y5 X6 Y6 X7 Y7 X8 Y8 ++ stepG (stpX y0) (stpY y0) (stpX y1) (stpY y1) (stpX y2) (stpY y2) (stpX y3) (stpY y3))) ((lawB P).drop 26) lawQ) :
    Exs W (n + 199) (lawAE P) (lawS P line [] [] (nsE e q3 ac up m) (.cell none) (rimsG q0 q1 q2 q3 X1 Y1 X2 Y2 X3 Y3 X4 Y4 X5 Y5 X6 Y6 X7 Y7 X8 Y8)) ((lawB P).drop 17) lawQ := by
  subst hm
  refine law_seg 17 9 39 w.base rfl ?_
  refine w.call (ok177 P) (u_stepW w o0 h0 ?_)
  refine w.call (ok177 P) (u_stepW w o1 h1 ?_)
  refine w.call (ok177 P) (u_stepW w o2 h2 ?_)
  refine w.call (ok177 P) (u_stepW w o3 h3 ?_)
  refine w.call (ok205 P) (u_measW (n := n + 93) w o0 rfl ?_)
  refine w.call (ok205 P) (u_measW (n := n + 93) w o1 rfl ?_)
  refine w.call (ok205 P) (u_measW (n := n + 93) w o2 rfl ?_)
  refine w.call (ok205 P) (u_measW (n := n + 93) w o3 rfl ?_)
  refine Gate.mk (fit_l (fitX o0)) (Gate.mk (fit_l (fitY o0)) ?_)
  refine Gate.mk (fit_l (fitX o0)) (Gate.mk (fit_l (fitY o0)) ?_)
  refine Gate.mk (fit_l (fitX o1)) (Gate.mk (fit_l (fitY o1)) ?_)
  refine Gate.mk (fit_l (fitX o0)) (Gate.mk (fit_l (fitY o0)) ?_)
  refine Gate.mk (fit_l (fitX o1)) (Gate.mk (fit_l (fitY o1)) ?_)
  refine Gate.mk (fit_l (fitX o2)) (Gate.mk (fit_l (fitY o2)) ?_)
  exact TidyS.by [40, 42, 43, 44, 45, 61] [11, 12, 13, 17] ⟨ren_chs, un_fnSame rfl rfl, un_fnSame rfl rfl, ren_tks, h _ _ rfl rfl⟩
end
end Mine

-- FILE X11
open PySem PySem.W PyProof.Rows
set_option Elab.async false
set_option autoImplicit false
set_option maxRecDepth 100000
namespace Mine
noncomputable def pk5 (a b c d e : Int) (i : Nat) : Int := match i with | 0 => a | 1 => b | 2 => c | 3 => d | _ => e
theorem pk5_all {φ : Int → Prop} {a b c d e : Int} (ha : φ a) (hb : φ b) (hc : φ c) (hd : φ d) (he : φ e) (i : Nat) : φ (pk5 a b c d e i) := by
  unfold pk5
  split <;> assumption
noncomputable def rE (X Y DX DY : Nat → Int) (side level : Int) : Int := endX side level (X (kAt Y side level - 1)) (Y (kAt Y side level - 1)) (DX (kAt Y side level - 1)) (DY (kAt Y side level - 1))
noncomputable def tE (Y DX DY : Nat → Int) (side level : Int) : Int := endT side level (Y (kAt Y side level - 1)) (DX (kAt Y side level - 1)) (DY (kAt Y side level - 1))
/-- one side of the ring: its last corner is found at every level, and the step there isn't flat -/
structure Side (X Y DX DY : Nat → Int) (side : Int) (h : Nat) : Prop where
  sX : ∀ i, Small (X i)
  sY : ∀ i, Small (Y i)
  sDX : ∀ i, Small (DX i)
  sDY : ∀ i, Small (DY i)
  at' : ∀ i : Nat, i ≤ h → 1 ≤ kAt Y side i ∧ DY (kAt Y side i - 1) ≠ 0
noncomputable def ptsE (R L : Nat → Int) (i : Nat) : Int := Nat.rec 0 (fun i p => p + R i - L i + 1) i
noncomputable def belE (R L : Nat → Int) (i : Nat) : Int := Nat.rec 0 (fun i b => 64 * b + ptsE R L i) i
noncomputable def whoE (R L : Nat → Int) (i : Nat) : Int := Nat.rec 0 (fun i x => 64 * x + R i - L i + 1) i
noncomputable def innE (R O L U : Nat → Int) (h : Nat) (i : Nat) : Int := Nat.rec 0 (fun i x => if 0 < i ∧ i < h then x + R i - O i - L i - U i + 1 else x) i
theorem innE_in {R O L U : Nat → Int} {h i : Nat} (h1 : 0 < i) (h2 : i < h) : innE R O L U h i + R i - O i - L i - U i + 1 = innE R O L U h (i + 1) := (if_pos ⟨h1, h2⟩).symm
theorem innE_out {R O L U : Nat → Int} {h i : Nat} (hn : ¬ (0 < i ∧ i < h)) : innE R O L U h i = innE R O L U h (i + 1) := (if_neg hn).symm
theorem fit64 : Fits 64 := ⟨by decide, by decide⟩
section
variable {W : Wd} {P : Params} {n : Nat} {H L : List AO} {ae : AE}
theorem mrg_snoc {e : List Nat} {o : AO} : ∀ {m : List Nat} {L H : List AO}, m.length = L.length → mrg e m (L ++ [o]) H = mrg e m L H ++ [o.ren e]
  | [], [], H, _ => by simp [mrg_nil]
  | j :: m, a :: L, H, h => by rw [List.cons_append, mrg_cons, mrg_cons]; exact mrg_snoc (by simpa using h)
  | [], _ :: _, _, h => nomatch h
  | _ :: _, [], _, h => nomatch h
theorem mrg_congr {e f : List Nat} : ∀ {m : List Nat} {L H : List AO}, L.map (AO.ren e) = L.map (AO.ren f) → mrg e m L H = mrg f m L H
  | [], L, H, h => by
    show H ++ L.map _ = H ++ L.map _
    rw [h]
  | j :: m, [], H, _ => rfl
  | j :: m, a :: L, H, h => by
    have h := List.cons.inj h
    rw [mrg_cons, mrg_cons, h.1]
    exact mrg_congr h.2
/-- a callee that makes one object and leaves what it reads as it was -/
theorem Cl.useNew {f f' : V} {as kv as' kv' : List V} {kn : List Str} {o : AO} {Q' : V → List AO → Prop} (m : List Nat) (L : List AO) (hv : View m L H) (er : L.map (AO.ren (m ++ [H.length])) = L.map (AO.ren m)) (eo : ∀ m, o.ren m = o) {k0 : Nat} (hk0 : L.length = k0)
    (h : Cl W n L f as kn kv fun v L' => v = .ref k0 ∧ L' = L ++ [o]) (ef : f.ren m = f') (ea : as.map (V.ren m) = as') (ek : kv.map (V.ren m) = kv') (k : newK H o Q') : Cl W n H f' as' kn kv' Q' := by
  subst hk0
  rw [newK_eq] at k
  refine Cl.use m L hv h ef ea ek ?_
  have e0 : ext m L.length H.length (L ++ [o]).length = m ++ [H.length] := by simp [ext]
  have hl : m.length = L.length := hv.len
  have e1 := mrg_same hv
  have e2 : ext m L.length H.length L.length = m := by simp [ext]
  rw [e2] at e1
  rw [e0, mrg_snoc hl, mrg_congr er, e1, eo]
  have e3 : V.ren (m ++ [H.length]) (.ref L.length) = .ref H.length := by
    show (match (m ++ [H.length])[L.length]? with | some j => V.ref j | none => .bad) = _
    rw [List.getElem?_append_right (by lia), hl, Nat.sub_self]
    rfl
  rw [e3]
  exact k
theorem u_end (w : Wo W P (glOf P)) {X Y DX DY : Nat → Int} {side : Int} {hgt i : Nat} (m : List Nat) {a b : V} {Q : V → List AO → Prop} (hs : side.natAbs = 1) (hS : Side X Y DX DY side hgt) (hi : i ≤ hgt) (hh : hgt ≤ 1000)
    (hv : View m (endL X Y DX DY) H) (er : (endL X Y DX DY).map (AO.ren (m ++ [H.length])) = (endL X Y DX DY).map (AO.ren m)) (ha : V.ren m (.ref 0) = a) (hb : V.ren m (.ref 6) = b)
    (k : newK H (.lst [.int (rE X Y DX DY side i), .int (tE Y DX DY side i)]) Q) : Cl W (n + 106) H (.gref 212) [a, b, .int side, .int i] [] [] Q := by
  subst ha hb
  exact Cl.useNew (k0 := 12) m (endL X Y DX DY) hv er (fun _ => rfl) rfl (c_end (n := n) w hs ⟨by lia, by lia⟩ hS.sX hS.sY hS.sDX hS.sDY (hS.at' i hi).1 (hS.at' i hi).2) rfl rfl rfl k
theorem Nxt.rngIt1 {j i r : Nat} {Q : Option V → List AO → Prop} (hj : H[j]? = some (Mine.rngIt i (r + 1 : Nat))) (h : Q (some (.int i)) (H.set j (Mine.rngIt (i + 1 : Nat) r))) : Nxt W n H (.ref j) Q :=
  Nxt.rngItem hj (by lia) (by rw [show ((r + 1 : Nat) : Int) - 1 = r by lia]; exact h)
/-- the ledger in the level loop: height, the names' tail, points, inner, below, whole, the level and the levels left -/
noncomputable def lawV (P : Params) (line : Int) (e : NE) (ac up : Int) (q0 q1 q2 q3 : Str) (x1 y1 x2 y2 x3 y3 x4 y4 x5 y5 x6 y6 x7 y7 x8 y8 a0 b0 a1 b1 a2 b2 a3 b3 : Int) (me cr p inn bel who : Int) (tl : List (Str × V)) (G : List AO) : List AO :=
  lawS P line [] [] (nsE e q3 ac up (⟨"spot", .ref 38⟩ :: ⟨"rims", .ref 28⟩ :: ⟨"side", .int (-1)⟩ :: ⟨"rim", .ref 34⟩ :: ⟨"wished", .str q3⟩ :: ⟨"measures", .int me⟩ :: ⟨"crossed", .int cr⟩ :: ⟨"height", .int y4⟩ :: ⟨"points", .int p⟩ :: ⟨"inner", .int inn⟩ :: ⟨"below", .int bel⟩ :: ⟨"whole", .int who⟩ :: tl)) (.cell (some (.ref 39)))
        (rimsG q0 q1 q2 q3 x1 y1 x2 y2 x3 y3 x4 y4 x5 y5 x6 y6 x7 y7 x8 y8 ++ (stepG a0 b0 a1 b1 a2 b2 a3 b3 ++ G))
noncomputable def tlE (a b c d f : Int) : List (Str × V) := [⟨"level", .int a⟩, ⟨"right", .int b⟩, ⟨"over", .int c⟩, ⟨"left", .int d⟩, ⟨"under", .int f⟩]
section
variable {line : Int} {e : NE} {ac up : Int} {q0 q1 q2 q3 : Str} {x1 y1 x2 y2 x3 y3 x4 y4 x5 y5 x6 y6 x7 y7 x8 y8 a0 b0 a1 b1 a2 b2 a3 b3 me cr : Int} {hgt : Nat} {R O Lf U : Nat → Int}
set_option maxHeartbeats 4000000 in
theorem seg12 (w : Wo W P (glOf P)) (hh : hgt ≤ 1000) (hy : y4 = (hgt : Nat)) {X Y X' Y' DX DY : Nat → Int} (eX : X = pk5 0 x1 x2 x3 x4) (eY : Y = pk5 0 y1 y2 y3 y4) (eX' : X' = pk5 x4 x5 x6 x7 x8) (eY' : Y' = pk5 y4 y5 y6 y7 y8) (eDX : DX = pk5 a0 a1 a2 a3 0) (eDY : DY = pk5 b0 b1 b2 b3 1)
    (hA : Side X Y DX DY 1 hgt) (hB : Side X' Y' DX DY (-1) hgt)
    (eR : R = fun i : Nat => rE X Y DX DY 1 i) (eO : O = fun i : Nat => tE Y DX DY 1 i) (eL : Lf = fun i : Nat => rE X' Y' DX DY (-1) i) (eU : U = fun i : Nat => tE Y' DX DY (-1) i)
    (h : ∀ a b c d f : Int, Exs W (n + 199) (lawAE P) (lawV P line e ac up q0 q1 q2 q3 x1 y1 x2 y2 x3 y3 x4 y4 x5 y5 x6 y6 x7 y7 x8 y8 a0 b0 a1 b1 a2 b2 a3 b3 me cr (ptsE R Lf (hgt + 1)) (innE R O Lf U hgt (hgt + 1)) (belE R Lf (hgt + 1)) (whoE R Lf (hgt + 1)) (tlE a b c d f) []) ((lawB P).drop 27) lawQ) :
    Exs W (n + 199) (lawAE P) (lawV P line e ac up q0 q1 q2 q3 x1 y1 x2 y2 x3 y3 x4 y4 x5 y5 x6 y6 x7 y7 x8 y8 a0 b0 a1 b1 a2 b2 a3 b3 me cr 0 0 0 0 [] []) ((lawB P).drop 26) lawQ := by
  have hl : (lawV P line e ac up q0 q1 q2 q3 x1 y1 x2 y2 x3 y3 x4 y4 x5 y5 x6 y6 x7 y7 x8 y8 a0 b0 a1 b1 a2 b2 a3 b3 me cr 0 0 0 0 [] []).length = 45 := by rfl
  refine law_seg 26 1 45 w.base hl ?_
  refine gate.mk (by subst hy; simp; lia) ?_
  refine Raw.mk (For.walk (n := n + 199) 47 (fun x : Nat × Nat × List (Str × V) => lawV P line e ac up q0 q1 q2 q3 x1 y1 x2 y2 x3 y3 x4 y4 x5 y5 x6 y6 x7 y7 x8 y8 a0 b0 a1 b1 a2 b2 a3 b3 me cr (ptsE R Lf x.1) (innE R O Lf U hgt x.1) (belE R Lf x.1) (whoE R Lf x.1) x.2.2 [Mine.rng (y4 + 1), Mine.rngIt x.1 x.2.1]) (·.2.1)
    (fun x => x.1 + x.2.1 = hgt + 1 ∧ ((x.1 = 0 ∧ x.2.2 = []) ∨ ∃ a b c d f, x.2.2 = tlE a b c d f)) w.base 60 (fun ⟨i, r, tl⟩ ⟨hi, ht⟩ => ?_) (0, hgt + 1, []) ⟨Nat.zero_add _, .inl ⟨rfl, rfl⟩⟩ (by subst hy; rfl))
  dsimp only at hi ht ⊢
  cases r with
  | zero =>
    refine Nxt.rngEnd rfl (Int.le_refl _) ?_
    rcases ht with ⟨h0, _⟩ | ⟨a, b, c, d, f, rfl⟩
    · lia
    · obtain rfl : i = hgt + 1 := hi
      exact TidyS.by [] [11, 12, 13, 17] ⟨ren_chs, un_fnSame rfl rfl, un_fnSame rfl rfl, ren_tks, h a b c d f⟩
  | succ r =>
    refine Nxt.rngIt1 rfl ?_
    have hih : i ≤ hgt := by lia
    have hR : rE X Y DX DY 1 i = R i := by rw [eR]
    have hO : tE Y DX DY 1 i = O i := by rw [eO]
    have hL : rE X' Y' DX DY (-1) i = Lf i := by rw [eL]
    have hU : tE Y' DX DY (-1) i = U i := by rw [eU]
    have hi' : i + 1 + r = hgt + 1 := by lia
    have fin : ∀ (tl : List (Str × V)) (z : Int), z = innE R O Lf U hgt (i + 1) → lawV P line e ac up q0 q1 q2 q3 x1 y1 x2 y2 x3 y3 x4 y4 x5 y5 x6 y6 x7 y7 x8 y8 a0 b0 a1 b1 a2 b2 a3 b3 me cr (ptsE R Lf (i + 1)) z (belE R Lf (i + 1)) (whoE R Lf (i + 1)) tl [Mine.rng (y4 + 1), Mine.rngIt (i + 1 : Nat) r] = (fun x : Nat × Nat × List (Str × V) => lawV P line e ac up q0 q1 q2 q3 x1 y1 x2 y2 x3 y3 x4 y4 x5 y5 x6 y6 x7 y7 x8 y8 a0 b0 a1 b1 a2 b2 a3 b3 me cr (ptsE R Lf x.1) (innE R O Lf U hgt x.1) (belE R Lf x.1) (whoE R Lf x.1) x.2.2 [Mine.rng (y4 + 1), Mine.rngIt x.1 x.2.1]) (i + 1, r, tl) := fun tl z hz => by rw [hz]
    subst eX eY eX' eY' eDX eDY
    rcases ht with ⟨h0, rfl⟩ | ⟨a, b, c, d, f, rfl⟩
    · refine w.call (ok212 P) (u_end (n := n + 93) w [29, 27, 30, 31, 32, 33, 39, 40, 41, 42, 43, 44] rfl hA hih hh (.of (by decide) ⟨rfl, rfl, rfl, rfl, rfl, rfl, rfl, rfl, rfl, rfl, rfl, rfl, trivial⟩) rfl rfl rfl ?_)
      rw [hR, hO]
      refine w.call (ok212 P) (u_end (n := n + 93) w [34, 33, 35, 36, 37, 38, 39, 40, 41, 42, 43, 44] rfl hB hih hh (.of (by decide) ⟨rfl, rfl, rfl, rfl, rfl, rfl, rfl, rfl, rfl, rfl, rfl, rfl, trivial⟩) rfl rfl rfl ?_)
      rw [hL, hU]
      refine Gate.mk (fit_l fit64) (Gate.mk (fit_l fit64) ?_)
      have hT : ∀ z, z = innE R O Lf U hgt (i + 1) → _ := fun z hz => fin (tlE i (R i) (O i) (Lf i) (U i)) z hz
      refine brP.mk (fun hc => ?_) (fun hc => ?_)
      · refine brP.mk (fun hc2 => ?_) (fun hc2 => ?_)
        · exact TidyS.by [] [11, 12, 13, 17] ⟨ren_chs, un_fnSame rfl rfl, un_fnSame rfl rfl, ren_tks, _, hT _ (innE_in (by have := of_decide_eq_true hc; lia) (by have := of_decide_eq_true hc2; lia)), ⟨hi', .inr ⟨_, _, _, _, _, rfl⟩⟩, Nat.lt_succ_self r⟩
        · exact TidyS.by [] [11, 12, 13, 17] ⟨ren_chs, un_fnSame rfl rfl, un_fnSame rfl rfl, ren_tks, _, hT _ (innE_out fun q => by have := of_decide_eq_false hc2; lia), ⟨hi', .inr ⟨_, _, _, _, _, rfl⟩⟩, Nat.lt_succ_self r⟩
      · exact TidyS.by [] [11, 12, 13, 17] ⟨ren_chs, un_fnSame rfl rfl, un_fnSame rfl rfl, ren_tks, _, hT _ (innE_out fun q => by have := of_decide_eq_false hc; lia), ⟨hi', .inr ⟨_, _, _, _, _, rfl⟩⟩, Nat.lt_succ_self r⟩
    · refine w.call (ok212 P) (u_end (n := n + 93) w [29, 27, 30, 31, 32, 33, 39, 40, 41, 42, 43, 44] rfl hA hih hh (.of (by decide) ⟨rfl, rfl, rfl, rfl, rfl, rfl, rfl, rfl, rfl, rfl, rfl, rfl, trivial⟩) rfl rfl rfl ?_)
      rw [hR, hO]
      refine w.call (ok212 P) (u_end (n := n + 93) w [34, 33, 35, 36, 37, 38, 39, 40, 41, 42, 43, 44] rfl hB hih hh (.of (by decide) ⟨rfl, rfl, rfl, rfl, rfl, rfl, rfl, rfl, rfl, rfl, rfl, rfl, trivial⟩) rfl rfl rfl ?_)
      rw [hL, hU]
      refine Gate.mk (fit_l fit64) (Gate.mk (fit_l fit64) ?_)
      have hT : ∀ z, z = innE R O Lf U hgt (i + 1) → _ := fun z hz => fin (tlE i (R i) (O i) (Lf i) (U i)) z hz
      refine brP.mk (fun hc => ?_) (fun hc => ?_)
      · refine brP.mk (fun hc2 => ?_) (fun hc2 => ?_)
        · exact TidyS.by [] [11, 12, 13, 17] ⟨ren_chs, un_fnSame rfl rfl, un_fnSame rfl rfl, ren_tks, _, hT _ (innE_in (by have := of_decide_eq_true hc; lia) (by have := of_decide_eq_true hc2; lia)), ⟨hi', .inr ⟨_, _, _, _, _, rfl⟩⟩, Nat.lt_succ_self r⟩
        · exact TidyS.by [] [11, 12, 13, 17] ⟨ren_chs, un_fnSame rfl rfl, un_fnSame rfl rfl, ren_tks, _, hT _ (innE_out fun q => by have := of_decide_eq_false hc2; lia), ⟨hi', .inr ⟨_, _, _, _, _, rfl⟩⟩, Nat.lt_succ_self r⟩
      · exact TidyS.by [] [11, 12, 13, 17] ⟨ren_chs, un_fnSame rfl rfl, un_fnSame rfl rfl, ren_tks, _, hT _ (innE_out fun q => by have := of_decide_eq_false hc; lia), ⟨hi', .inr ⟨_, _, _, _, _, rfl⟩⟩, Nat.lt_succ_self r⟩
end
end
end Mine

-- FILE X12
open PySem PySem.W PyProof.Rows
set_option Elab.async false
set_option autoImplicit false
set_option maxRecDepth 100000
namespace Mine
section
variable {W : Wd} {P : Params} {n : Nat} {H L : List AO} {ae : AE}
variable {line : Int} {e : NE} {ac up : Int} {q0 q1 q2 q3 : Str} {x1 y1 x2 y2 x3 y3 x4 y4 x5 y5 x6 y6 x7 y7 x8 y8 a0 b0 a1 b1 a2 b2 a3 b3 me cr p inn bel who a b c d f : Int}
theorem beq_t {a b : Int} (h : a = b) : (a == b) = true := by simp [h]
set_option maxHeartbeats 4000000 in
theorem seg13 (w : Wo W P (glOf P)) (e1 : who.fdiv 63 = bel) (e2 : who.fmod 63 = p) (e3 : who.fdiv (-63) = -1 - bel) (e4 : who.fmod (-63) = p - 63) (hw : who.natAbs < 2 ^ 100) (hp : p = 1 + me + cr) (hi : cr = 0 ∨ inn = 1 - me + cr) :
    Exs W (n + 199) (lawAE P) (lawV P line e ac up q0 q1 q2 q3 x1 y1 x2 y2 x3 y3 x4 y4 x5 y5 x6 y6 x7 y7 x8 y8 a0 b0 a1 b1 a2 b2 a3 b3 me cr p inn bel who (tlE a b c d f) []) ((lawB P).drop 27) lawQ := by
  refine law_seg 27 2 45 w.base rfl ?_
  refine w.call (ok56 P) (u_idm (n := n + 94) (a := who) (b := 63) w (by decide) (by decide) hw ?_)
  rw [e1, e2]
  refine w.call (ok56 P) (u_idm (n := n + 94) (a := who) (b := -63) w (by decide) (by decide) hw ?_)
  rw [e3, e4]
  obtain ⟨z, hz⟩ : ∃ z, z = false := ⟨_, rfl⟩
  refine Raw.mk ?_
  refine Cmp.neZ hz rfl rfl rfl (VEq.ofL ⟨rfl, fun q hq => ?_⟩) ?_
  · simp only [List.zip_cons_cons, List.zip_nil_right, List.mem_cons, List.not_mem_nil, or_false] at hq
    rcases hq with rfl | rfl
    · exact VEq.tup (ms := [bel, p]) rfl rfl
    · exact VEq.tup (ms := [-1 - bel, p - 63]) rfl rfl
  refine brP.f hz ?_
  refine brP.t (beq_t hp) ?_
  refine brP.mk (fun hc => ?_) (fun hc => ?_)
  · exact TidyS.by [] [11, 12, 13, 17] ⟨ren_chs, un_fnSame rfl rfl, un_fnSame rfl rfl, ren_tks, congrArg V.bool hc⟩
  · exact TidyS.by [] [11, 12, 13, 17] ⟨ren_chs, un_fnSame rfl rfl, un_fnSame rfl rfl, ren_tks, congrArg V.bool (beq_t (hi.resolve_left (beq_eq_false_iff_ne.mp hc)))⟩
end
end Mine

-- FILE PL1
open PySem PySem.W PyProof.Rows
set_option Elab.async false
set_option autoImplicit false
set_option maxRecDepth 100000
namespace Mine
noncomputable def S4 : List (Int × Int × Int × Int) := [(0, 0, -99, 0), (1, 0, -99, 1), (2, 0, -99, 2), (3, 0, -99, 3), (3, 1, -36, 1), (2, 1, -24, 1), (3, 2, -18, 1), (1, 1, -12, 1), (2, 2, -12, 2), (3, 3, -12, 3), (2, 3, -8, 1), (1, 2, -6, 1), (1, 3, -4, 1), (0, 1, 0, 1), (0, 2, 0, 2), (0, 3, 0, 3), (-1, 2, 6, 1), (-1, 1, 12, 1), (-2, 1, 24, 1)]
theorem can_mem {y : W3} (h : Cn y) : (stpX y, stpY y, wayW y, meas 4 (stpX y) (stpY y)) ∈ S4 := by
  obtain ⟨⟨p, q, r⟩, hw, rfl⟩ := h
  exact all64 (φ := fun p q r => (stpX (cn (p, q, r)), stpY (cn (p, q, r)), wayW (cn (p, q, r)), meas 4 (stpX (cn (p, q, r))) (stpY (cn (p, q, r)))) ∈ S4) (by decide +kernel) hw.1 hw.2.1 hw.2.2
noncomputable def sm (f : Nat → Int) (n : Nat) : Int := Nat.rec 0 (fun i s => s + f i) n
noncomputable def tF (a b : Int) : Int := sm (fun t => (a * t).fdiv b) b.toNat
noncomputable def tO (a b : Int) : Int := sm (fun t => if (a * t).fmod b == 0 then 1 else 0) b.toNat
theorem s4_f : ∀ s ∈ S4, (0 ≤ s.2.1 ∧ s.2.1 ≤ 3) ∧ (-3 ≤ s.1 ∧ s.1 ≤ 3) ∧ 2 * tF s.1 s.2.1 = s.1 * s.2.1 - s.1 - s.2.1 + s.2.2.2 ∧ tO s.1 s.2.1 = (if s.2.1 = 0 then 0 else s.2.2.2) ∧ (s.2.1 = 0 → s.2.2.2 = s.1) ∧ 0 ≤ s.2.2.2 := by decide +kernel
theorem s4_2 : ∀ s ∈ S4, ∀ t ∈ S4, s.2.2.1 ≤ t.2.2.1 → 0 ≤ s.1 * t.2.1 - s.2.1 * t.1 ∧ (t.2.1 = 0 → s.2.1 = 0) := by decide +kernel
theorem s4_4 : (S4.all fun s => S4.all fun t => decide (t.2.2.1 < s.2.2.1) || S4.all fun u => decide (u.2.2.1 < t.2.2.1) || S4.all fun v => decide (v.2.2.1 < u.2.2.1) ||
    decide (s.2.2.2 + t.2.2.2 + u.2.2.2 + v.2.2.2 + (s.1 * t.2.1 - s.2.1 * t.1) + ((s.1 + t.1) * u.2.1 - (s.2.1 + t.2.1) * u.1) + ((s.1 + t.1 + u.1) * v.2.1 - (s.2.1 + t.2.1 + u.2.1) * v.1) ≤ 61)) = true := by decide +kernel
end Mine

-- FILE PL2
open PySem PySem.W PyProof.Rows
set_option Elab.async false
set_option autoImplicit false
set_option maxRecDepth 100000
namespace Mine
theorem sm_succ (f : Nat → Int) (n : Nat) : sm f (n + 1) = sm f n + f n := rfl
theorem sm_congr {f g : Nat → Int} : ∀ {n : Nat}, (∀ i, i < n → f i = g i) → sm f n = sm g n
  | 0, _ => rfl
  | n + 1, h => by rw [sm_succ, sm_succ, sm_congr fun i hi => h i (by lia), h n (by lia)]
theorem sm_add (f : Nat → Int) (m : Nat) : ∀ n : Nat, sm f (m + n) = sm f m + sm (fun t => f (m + t)) n
  | 0 => (Int.add_zero _).symm
  | n + 1 => by rw [← Nat.add_assoc, sm_succ, sm_succ, sm_add f m n]; lia
theorem sm_front (f : Nat → Int) : ∀ n : Nat, sm f (n + 1) = f 0 + sm (fun i => f (i + 1)) n
  | 0 => by show 0 + f 0 = f 0 + 0; lia
  | n + 1 => by rw [sm_succ, sm_front f n, sm_succ]; lia
theorem sm_rev (f : Nat → Int) : ∀ n : Nat, sm (fun i => f (n - i)) (n + 1) = sm f (n + 1)
  | 0 => rfl
  | n + 1 => by
    rw [sm_front, sm_succ f, ← sm_rev f n, sm_congr (f := fun i => f (n + 1 - (i + 1))) (g := fun i => f (n - i)) fun i _ => by rw [Nat.add_sub_add_right]]
    show f (n + 1 - 0) + _ = _
    rw [Nat.sub_zero]
    lia
theorem sm_shift (c : Int) (f : Nat → Int) : ∀ n : Nat, sm (fun i => c + f i) n = (n : Int) * c + sm f n
  | 0 => by show (0 : Int) = (0 : Nat) * c + 0; simp
  | n + 1 => by rw [sm_succ, sm_succ, sm_shift c f n, Int.natCast_add, Int.add_mul]; lia
theorem pts_sm (R L : Nat → Int) : ∀ n : Nat, ptsE R L n = sm R n - sm L n + n
  | 0 => rfl
  | n + 1 => by
    show ptsE R L n + R n - L n + 1 = _
    rw [pts_sm R L n, sm_succ, sm_succ]; lia
theorem who_bel (R L : Nat → Int) : ∀ n : Nat, whoE R L n = 63 * belE R L n + ptsE R L n
  | 0 => rfl
  | n + 1 => by
    show 64 * whoE R L n + R n - L n + 1 = 63 * (64 * belE R L n + ptsE R L n) + (ptsE R L n + R n - L n + 1)
    rw [who_bel R L n]; lia
theorem who_le {R L : Nat → Int} : ∀ {n : Nat}, (∀ i, i < n → (R i - L i + 1).natAbs ≤ 63) → (whoE R L n).natAbs < 64 ^ n
  | 0, _ => by show (0 : Int).natAbs < 1; decide
  | n + 1, h => by
    have ih := who_le (n := n) fun i hi => h i (by omega)
    have := h n (by omega)
    show (64 * whoE R L n + R n - L n + 1).natAbs < 64 ^ (n + 1)
    rw [Nat.pow_succ]
    omega
/-- what is added between the lowest and the highest level -/
theorem inn_sm (R O L U : Nat → Int) (h : Nat) : ∀ n : Nat, n ≤ h → innE R O L U (h + 1) (n + 1) = sm (fun i => R i - O i - L i - U i + 1) (n + 1) - (R 0 - O 0 - L 0 - U 0 + 1)
  | 0, _ => by
    rw [← innE_out (by lia)]
    show (0 : Int) = 0 + (R 0 - O 0 - L 0 - U 0 + 1) - (R 0 - O 0 - L 0 - U 0 + 1)
    lia
  | n + 1, hn => by
    rw [← innE_in (by lia) (by lia), inn_sm R O L U h n (by lia), sm_succ _ (n + 1)]
    lia
theorem inn_all (R O L U : Nat → Int) (h : Nat) : innE R O L U (h + 1) (h + 1 + 1) = sm (fun i => R i - O i - L i - U i + 1) (h + 1 + 1) - (R 0 - O 0 - L 0 - U 0 + 1) - (R (h + 1) - O (h + 1) - L (h + 1) - U (h + 1) + 1) := by
  rw [← innE_out (by lia), inn_sm R O L U h h (Nat.le_refl _), sm_succ _ (h + 1)]
  lia
/-- the right side, corner by corner -/
structure Rt (B0 B1 B2 B3 : Nat) (a0 a1 a2 a3 : Int) (R O : Nat → Int) : Prop where
  r0 : ∀ t, t < B0 → R t = 0 + (a0 * t).fdiv B0 ∧ O t = if (a0 * t).fmod B0 == 0 then 1 else 0
  r1 : ∀ t, t < B1 → R (B0 + t) = a0 + (a1 * t).fdiv B1 ∧ O (B0 + t) = if (a1 * t).fmod B1 == 0 then 1 else 0
  r2 : ∀ t, t < B2 → R (B0 + B1 + t) = a0 + a1 + (a2 * t).fdiv B2 ∧ O (B0 + B1 + t) = if (a2 * t).fmod B2 == 0 then 1 else 0
  r3 : ∀ t, t < B3 → R (B0 + B1 + B2 + t) = a0 + a1 + a2 + (a3 * t).fdiv B3 ∧ O (B0 + B1 + B2 + t) = if (a3 * t).fmod B3 == 0 then 1 else 0
  r4 : R (B0 + B1 + B2 + B3) = a0 + a1 + a2 + a3 ∧ O (B0 + B1 + B2 + B3) = 1
theorem seg_sm {B : Nat} {a c : Int} {f : Nat → Int} (h : ∀ t, t < B → f t = c + (a * t).fdiv B) : sm f B = B * c + tF a B := by
  rw [sm_congr h, sm_shift]
  rfl
theorem seg_so {B : Nat} {a : Int} {f : Nat → Int} (h : ∀ t, t < B → f t = if (a * t).fmod B == 0 then 1 else 0) : sm f B = tO a B := by
  rw [sm_congr h]
  rfl
theorem Rt.sum {B0 B1 B2 B3 : Nat} {a0 a1 a2 a3 : Int} {R O : Nat → Int} (h : Rt B0 B1 B2 B3 a0 a1 a2 a3 R O) :
    sm R (B0 + B1 + B2 + B3 + 1) = tF a0 B0 + (B1 * a0 + tF a1 B1) + (B2 * (a0 + a1) + tF a2 B2) + (B3 * (a0 + a1 + a2) + tF a3 B3) + (a0 + a1 + a2 + a3) ∧ sm O (B0 + B1 + B2 + B3 + 1) = tO a0 B0 + tO a1 B1 + tO a2 B2 + tO a3 B3 + 1 := by
  constructor
  · rw [sm_succ, sm_add, sm_add, sm_add, seg_sm fun t ht => (h.r0 t ht).1, seg_sm fun t ht => (h.r1 t ht).1, seg_sm fun t ht => (h.r2 t ht).1, seg_sm fun t ht => (h.r3 t ht).1, h.r4.1]
    lia
  · rw [sm_succ, sm_add, sm_add, sm_add, seg_so fun t ht => (h.r0 t ht).2, seg_so fun t ht => (h.r1 t ht).2, seg_so fun t ht => (h.r2 t ht).2, seg_so fun t ht => (h.r3 t ht).2, h.r4.2]
end Mine

-- FILE PL3
open PySem PySem.W PyProof.Rows
set_option Elab.async false
set_option autoImplicit false
set_option maxRecDepth 100000
namespace Mine
theorem sm_csub (c : Int) (f : Nat → Int) : ∀ n : Nat, sm (fun i => c - f i) n = (n : Int) * c - sm f n
  | 0 => by show (0 : Int) = (0 : Nat) * c - 0; simp
  | n + 1 => by rw [sm_succ, sm_succ, sm_csub c f n, Int.natCast_add, Int.add_mul]; lia
structure Fa (a : Int) (B : Nat) (g : Int) : Prop where
  b3 : B ≤ 3
  al : -3 ≤ a
  ah : a ≤ 3
  f : 2 * tF a B = a * B - a - B + g
  o : tO a B = if B = 0 then 0 else g
  z : B = 0 → g = a
  g0 : 0 ≤ g
theorem zq (a : Int) (B : Nat) : (a * (0 : Nat)).fdiv B = 0 ∧ (if (a * (0 : Nat)).fmod B == 0 then (1 : Int) else 0) = 1 := by
  have : a * ((0 : Nat) : Int) = 0 := Int.mul_zero a
  rw [this, Int.zero_fdiv, Int.zero_fmod]
  exact ⟨rfl, rfl⟩
section
variable {B0 B1 B2 B3 : Nat} {a0 a1 a2 a3 g0 g1 g2 g3 : Int} {R O L U : Nat → Int}
theorem Rt.zero (h : Rt B0 B1 B2 B3 a0 a1 a2 a3 R O) (f0 : Fa a0 B0 g0) (f1 : Fa a1 B1 g1) (f2 : Fa a2 B2 g2) (f3 : Fa a3 B3 g3) (z1 : B1 = 0 → B0 = 0) (z2 : B2 = 0 → B1 = 0) (z3 : B3 = 0 → B2 = 0) (c3 : ¬ B3 = 0) :
    O 0 = 1 ∧ R 0 + (tO a0 B0 + tO a1 B1 + tO a2 B2 + tO a3 B3) = g0 + g1 + g2 + g3 := by
  have e3 := f3.o.trans (if_neg c3)
  have fin : ∀ {B : Nat} {a c : Int} {i : Nat}, ¬ B = 0 → (∀ t, t < B → R (i + t) = c + (a * t).fdiv B ∧ O (i + t) = if (a * t).fmod B == 0 then 1 else 0) → i = 0 → O 0 = 1 ∧ R 0 = c := fun hB k e => by
    subst e
    have k := k 0 (Nat.pos_of_ne_zero hB)
    rw [(zq _ _).1, (zq _ _).2, Int.add_zero] at k
    exact ⟨k.2, k.1⟩
  by_cases c2 : B2 = 0
  · have c1 := z2 c2
    have c0 := z1 c1
    subst c0 c1 c2
    obtain ⟨k1, k2⟩ := fin c3 h.r3 rfl
    rw [k2, e3, f0.o.trans (if_pos rfl), f1.o.trans (if_pos rfl), f2.o.trans (if_pos rfl), f0.z rfl, f1.z rfl, f2.z rfl]
    exact ⟨k1, by lia⟩
  have e2 := f2.o.trans (if_neg c2)
  by_cases c1 : B1 = 0
  · have c0 := z1 c1
    subst c0 c1
    obtain ⟨k1, k2⟩ := fin c2 h.r2 rfl
    rw [k2, e3, e2, f0.o.trans (if_pos rfl), f1.o.trans (if_pos rfl), f0.z rfl, f1.z rfl]
    exact ⟨k1, by lia⟩
  have e1 := f1.o.trans (if_neg c1)
  by_cases c0 : B0 = 0
  · subst c0
    obtain ⟨k1, k2⟩ := fin c1 h.r1 rfl
    rw [k2, e3, e2, e1, f0.o.trans (if_pos rfl), f0.z rfl]
    exact ⟨k1, by lia⟩
  have e0 := f0.o.trans (if_neg c0)
  have k := h.r0 0 (Nat.pos_of_ne_zero c0)
  rw [(zq _ _).1, (zq _ _).2, Int.add_zero] at k
  rw [k.1, e0, e1, e2, e3, Int.zero_add]
  exact ⟨k.2, rfl⟩
theorem alg1 {h W S C G a b t g : Int} (e : 2 * S = h * W + C - W - h + G) (f : 2 * t = a * b - a - b + g) : 2 * (S + (b * W + t)) = (h + b) * (W + a) + (C + (W * b - h * a)) - (W + a) - (h + b) + (G + g) := by
  rw [Int.add_mul h b, Int.mul_add h, Int.mul_add b, Int.mul_comm b a, Int.mul_comm W b]
  lia
/-- what is counted so far: the sum of the right ends, and the crosswise products -/
noncomputable def crP (a0 b0 a1 b1 a2 b2 a3 b3 : Int) : Int := (a0 * b1 - b0 * a1) + ((a0 + a1) * b2 - (b0 + b1) * a2) + ((a0 + a1 + a2) * b3 - (b0 + b1 + b2) * a3)
theorem alg {b0 b1 b2 b3 t0 t1 t2 t3 : Int} (f0 : 2 * t0 = a0 * b0 - a0 - b0 + g0) (f1 : 2 * t1 = a1 * b1 - a1 - b1 + g1) (f2 : 2 * t2 = a2 * b2 - a2 - b2 + g2) (f3 : 2 * t3 = a3 * b3 - a3 - b3 + g3) :
    2 * (t0 + (b1 * a0 + t1) + (b2 * (a0 + a1) + t2) + (b3 * (a0 + a1 + a2) + t3)) = (b0 + b1 + b2 + b3) * (a0 + a1 + a2 + a3) + crP a0 b0 a1 b1 a2 b2 a3 b3 - (a0 + a1 + a2 + a3) - (b0 + b1 + b2 + b3) + (g0 + g1 + g2 + g3) := by
  have e0 : 2 * t0 = b0 * a0 + 0 - a0 - b0 + g0 := by rw [Int.mul_comm b0]; lia
  have e1 := alg1 e0 f1
  rw [Int.zero_add] at e1
  exact alg1 (alg1 e1 f2) f3
theorem alg2 {S h W C G : Int} (e : 2 * S = h * W + C - W - h + G) : (S + W) - ((h + 1) * W - (S + W)) + (h + 1) = 1 + G + C := by
  rw [Int.add_mul, Int.one_mul]
  lia
theorem crs_P {b0 b1 b2 b3 : Int} (h01 : 0 ≤ a0 * b1 - b0 * a1) (h02 : 0 ≤ a0 * b2 - b0 * a2) (h12 : 0 ≤ a1 * b2 - b1 * a2) (h03 : 0 ≤ a0 * b3 - b0 * a3) (h13 : 0 ≤ a1 * b3 - b1 * a3) (h23 : 0 ≤ a2 * b3 - b2 * a3) :
    crs a0 b0 a1 b1 a2 b2 a3 b3 = crP a0 b0 a1 b1 a2 b2 a3 b3 ∧ 0 ≤ crP a0 b0 a1 b1 a2 b2 a3 b3 := by
  have d : ∀ {x y z u : Int}, 0 ≤ x * u - y * z → dt x y z u = x * u - y * z := fun h => if_neg (Int.not_lt.mpr h)
  have e : crP a0 b0 a1 b1 a2 b2 a3 b3 = (a0 * b1 - b0 * a1) + ((a0 * b2 - b0 * a2) + (a1 * b2 - b1 * a2)) + ((a0 * b3 - b0 * a3) + (a1 * b3 - b1 * a3) + (a2 * b3 - b2 * a3)) := by
    have k1 : (a0 + a1) * b2 - (b0 + b1) * a2 = (a0 * b2 - b0 * a2) + (a1 * b2 - b1 * a2) := by rw [Int.add_mul, Int.add_mul]; lia
    have k2 : (a0 + a1 + a2) * b3 - (b0 + b1 + b2) * a3 = (a0 * b3 - b0 * a3) + (a1 * b3 - b1 * a3) + (a2 * b3 - b2 * a3) := by rw [Int.add_mul, Int.add_mul, Int.add_mul, Int.add_mul]; lia
    rw [crP, k1, k2]
  rw [crs, d h01, d h02, d h12, d h03, d h13, d h23, e]
  simp only [List.sum_cons, List.sum_nil]
  generalize a0 * b1 - b0 * a1 = p at *
  generalize a0 * b2 - b0 * a2 = q at *
  generalize a1 * b2 - b1 * a2 = r at *
  generalize a0 * b3 - b0 * a3 = s at *
  generalize a1 * b3 - b1 * a3 = t at *
  generalize a2 * b3 - b2 * a3 = u at *
  lia
end
end Mine

-- FILE PL4
open PySem PySem.W PyProof.Rows
set_option Elab.async false
set_option autoImplicit false
set_option maxRecDepth 100000
namespace Mine
theorem b5_0 {v a b c d e : Int} (h1 : a ≤ v) (h2 : v < b) (h3 : b ≤ c) : bis5 v a b c d e = 1 := by
  rw [bis5, if_pos (Int.lt_of_lt_of_le h2 h3), if_pos h2, if_neg (Int.not_lt.mpr h1)]
theorem b5_1 {v a b c d e : Int} (h1 : b ≤ v) (h2 : v < c) : bis5 v a b c d e = 2 := by
  rw [bis5, if_pos h2, if_neg (Int.not_lt.mpr h1)]
theorem b5_2 {v a b c d e : Int} (h1 : c ≤ v) (h2 : v < d) (h3 : d ≤ e) : bis5 v a b c d e = 3 := by
  rw [bis5, if_neg (Int.not_lt.mpr h1), if_pos (Int.lt_of_lt_of_le h2 h3), if_pos h2]
theorem b5_3 {v a b c d e : Int} (h1 : d ≤ v) (h2 : v < e) (h3 : c ≤ d) : bis5 v a b c d e = 4 := by
  rw [bis5, if_neg (Int.not_lt.mpr (Int.le_trans h3 h1)), if_pos h2, if_neg (Int.not_lt.mpr h1)]
theorem b5_4 {v a b c d e : Int} (h1 : e ≤ v) (h3 : c ≤ e) : bis5 v a b c d e = 5 := by
  rw [bis5, if_neg (Int.not_lt.mpr (Int.le_trans h3 h1)), if_neg (Int.not_lt.mpr h1)]
theorem bis5_add {v a b c d e : Int} (z : Int) : bis5 (v + z) (a + z) (b + z) (c + z) (d + z) (e + z) = bis5 v a b c d e := by
  simp only [bis5, Int.add_lt_add_iff_right]
theorem kat_one {Y : Nat → Int} {l : Int} : kAt Y 1 l = bis5 l (Y 0) (Y 1) (Y 2) (Y 3) (Y 4) := by
  simp only [kAt, Int.one_mul]
theorem kat_mir {Y Y' : Nat → Int} {h l : Int} (hY : ∀ i, Y' i = h - Y i) : kAt Y' (-1) l = kAt Y 1 (h - l) := by
  have e : ∀ y : Int, -1 * (h - y) = y + -h := fun y => by lia
  have e2 : -1 * l = (h - l) + -h := by lia
  rw [kat_one, kAt, hY 0, hY 1, hY 2, hY 3, hY 4, e, e, e, e, e, e2, bis5_add]
theorem end_mir {h l y dx dy : Int} : endQ (-1) l (h - y) dx dy = endQ 1 (h - l) y dx dy ∧ endR (-1) l (h - y) dx dy = -endR 1 (h - l) y dx dy := by
  have e1 : -1 * dx * (-1 * (l - (h - y))) = -(1 * dx * (1 * (h - l - y))) := by
    rw [show -1 * (l - (h - y)) = 1 * (h - l - y) by lia, Int.neg_mul, Int.neg_mul]
  have e2 : -1 * dy = -(1 * dy) := by lia
  rw [endQ, endR, e1, e2, Int.neg_fdiv_neg, Int.neg_fmod_neg]
  exact ⟨rfl, rfl⟩
theorem rE_mir {X X' Y Y' DX DY : Nat → Int} {W h l : Int} (hX : ∀ i, X' i = W - X i) (hY : ∀ i, Y' i = h - Y i) : rE X' Y' DX DY (-1) l = W - rE X Y DX DY 1 (h - l) := by
  rw [rE, rE, kat_mir hY, hX, hY, endX, endX, end_mir.1]
  lia
theorem tE_mir {Y Y' DX DY : Nat → Int} {h l : Int} (hY : ∀ i, Y' i = h - Y i) : tE Y' DX DY (-1) l = tE Y DX DY 1 (h - l) := by
  rw [tE, tE, kat_mir hY, hY, endT, endT, end_mir.2]
  have : ∀ z : Int, (-z == 0) = (z == 0) := fun z => by rw [Bool.eq_iff_iff, beq_iff_eq, beq_iff_eq]; lia
  rw [this]
section
variable {B0 B1 B2 B3 : Nat} {a0 a1 a2 a3 g0 g1 g2 g3 : Int} {R O L U X Y DX DY : Nat → Int}
structure Kat (Y : Nat → Int) (B0 B1 B2 B3 : Nat) : Prop where
  k0 : ∀ t, t < B0 → kAt Y 1 t = 1
  k1 : ∀ t, t < B1 → kAt Y 1 (B0 + t : Nat) = 2
  k2 : ∀ t, t < B2 → kAt Y 1 (B0 + B1 + t : Nat) = 3
  k3 : ∀ t, t < B3 → kAt Y 1 (B0 + B1 + B2 + t : Nat) = 4
  k4 : kAt Y 1 (B0 + B1 + B2 + B3 : Nat) = 5
theorem kat_of (eY : Y = pk5 0 B0 (B0 + B1 : Nat) (B0 + B1 + B2 : Nat) (B0 + B1 + B2 + B3 : Nat)) : Kat Y B0 B1 B2 B3 := by
  subst eY
  refine ⟨fun t h => ?_, fun t h => ?_, fun t h => ?_, fun t h => ?_, ?_⟩
  · rw [kat_one]; exact b5_0 (Int.natCast_nonneg _) (Int.ofNat_lt.mpr h) (Int.ofNat_le.mpr (Nat.le_add_right _ _))
  · rw [kat_one]; exact b5_1 (Int.ofNat_le.mpr (Nat.le_add_right _ _)) (Int.ofNat_lt.mpr (Nat.add_lt_add_left h _))
  · rw [kat_one]; exact b5_2 (Int.ofNat_le.mpr (Nat.le_add_right _ _)) (Int.ofNat_lt.mpr (Nat.add_lt_add_left h _)) (Int.ofNat_le.mpr (Nat.le_add_right _ _))
  · rw [kat_one]; exact b5_3 (Int.ofNat_le.mpr (Nat.le_add_right _ _)) (Int.ofNat_lt.mpr (Nat.add_lt_add_left h _)) (Int.ofNat_le.mpr (Nat.le_add_right _ _))
  · rw [kat_one]; exact b5_4 (Int.le_refl _) (Int.ofNat_le.mpr (Nat.le_trans (Nat.le_add_right _ _) (Nat.le_add_right _ _)))
theorem rE_at {l : Int} {j : Nat} (hk : kAt Y 1 l = j + 1) {t : Nat} (hl : l - Y j = t) : rE X Y DX DY 1 l = X j + (DX j * t).fdiv (DY j) ∧ tE Y DX DY 1 l = if (DX j * t).fmod (DY j) == 0 then 1 else 0 := by
  rw [rE, tE, hk, Nat.add_sub_cancel, endX, endT, endQ, endR, hl, Int.one_mul, Int.one_mul, Int.one_mul, Int.one_mul]
  exact ⟨rfl, rfl⟩
theorem ncast {m t : Nat} : ((m + t : Nat) : Int) - (m : Nat) = t := by lia
theorem rt_of (eX : X = pk5 0 a0 (a0 + a1) (a0 + a1 + a2) (a0 + a1 + a2 + a3)) (eY : Y = pk5 0 B0 (B0 + B1 : Nat) (B0 + B1 + B2 : Nat) (B0 + B1 + B2 + B3 : Nat)) (eDX : DX = pk5 a0 a1 a2 a3 0) (eDY : DY = pk5 B0 B1 B2 B3 1) :
    Rt B0 B1 B2 B3 a0 a1 a2 a3 (fun i => rE X Y DX DY 1 i) (fun i => tE Y DX DY 1 i) := by
  have K := kat_of eY
  subst eX eY eDX eDY
  refine ⟨fun t h => rE_at (j := 0) (K.k0 t h) (Int.sub_zero _), fun t h => rE_at (j := 1) (K.k1 t h) ncast, fun t h => rE_at (j := 2) (K.k2 t h) ncast, fun t h => rE_at (j := 3) (K.k3 t h) ncast, ?_⟩
  have := rE_at (X := pk5 0 a0 (a0 + a1) (a0 + a1 + a2) (a0 + a1 + a2 + a3)) (DX := pk5 a0 a1 a2 a3 0) (DY := pk5 B0 B1 B2 B3 1) (j := 4) (t := 0) K.k4 (Int.sub_self _)
  exact ⟨this.1.trans ((congrArg (a0 + a1 + a2 + a3 + ·) (zq 0 1).1).trans (Int.add_zero _)), this.2.trans (zq 0 1).2⟩
theorem seg_cases {i : Nat} (h : i ≤ B0 + B1 + B2 + B3) {φ : Nat → Prop} (h0 : ∀ t, t < B0 → φ t) (h1 : ∀ t, t < B1 → φ (B0 + t)) (h2 : ∀ t, t < B2 → φ (B0 + B1 + t)) (h3 : ∀ t, t < B3 → φ (B0 + B1 + B2 + t)) (h4 : φ (B0 + B1 + B2 + B3)) : φ i := by
  by_cases c0 : i < B0
  · exact h0 i c0
  by_cases c1 : i < B0 + B1
  · have := h1 (i - B0) (by lia); rwa [Nat.add_sub_cancel' (by lia)] at this
  by_cases c2 : i < B0 + B1 + B2
  · have := h2 (i - (B0 + B1)) (by lia); rwa [Nat.add_sub_cancel' (by lia)] at this
  by_cases c3 : i < B0 + B1 + B2 + B3
  · have := h3 (i - (B0 + B1 + B2)) (by lia); rwa [Nat.add_sub_cancel' (by lia)] at this
  · obtain rfl : i = B0 + B1 + B2 + B3 := by lia
    exact h4
theorem nzB {t B : Nat} (h : t < B) : (B : Int) ≠ 0 := by lia
theorem at_of (K : Kat Y B0 B1 B2 B3) (eDY : DY = pk5 B0 B1 B2 B3 1) {i : Nat} (h : i ≤ B0 + B1 + B2 + B3) : 1 ≤ kAt Y 1 i ∧ DY (kAt Y 1 i - 1) ≠ 0 := by
  subst eDY
  refine seg_cases (φ := fun i => 1 ≤ kAt Y 1 i ∧ pk5 B0 B1 B2 B3 1 (kAt Y 1 i - 1) ≠ 0) h (fun t h => ?_) (fun t h => ?_) (fun t h => ?_) (fun t h => ?_) ?_
  · rw [K.k0 t h]; exact ⟨by decide, nzB h⟩
  · rw [K.k1 t h]; exact ⟨by decide, nzB h⟩
  · rw [K.k2 t h]; exact ⟨by decide, nzB h⟩
  · rw [K.k3 t h]; exact ⟨by decide, nzB h⟩
  · rw [K.k4]; exact ⟨by decide, Int.one_ne_zero⟩
theorem fd3 {a : Int} {B t : Nat} (b3 : B ≤ 3) (al : -3 ≤ a) (ah : a ≤ 3) (h : t < B) : -3 ≤ (a * t).fdiv B ∧ (a * t).fdiv B ≤ 3 := by
  rw [Int.fdiv_eq_ediv_of_nonneg _ (Int.natCast_nonneg _)]
  have hB : (0 : Int) < B := by lia
  have e : -3 * (B : Int) ≤ a * t ∧ a * t ≤ 3 * B := by
    obtain rfl | rfl | rfl : t = 0 ∨ t = 1 ∨ t = 2 := by lia
    · rw [show a * ((0 : Nat) : Int) = 0 from Int.mul_zero a]; lia
    · rw [show a * ((1 : Nat) : Int) = a from Int.mul_one a]; lia
    · rw [show a * ((2 : Nat) : Int) = a * 2 from rfl]; lia
  exact ⟨Int.le_ediv_of_mul_le hB e.1, Int.ediv_le_of_le_mul hB e.2⟩
theorem Rt.small (h : Rt B0 B1 B2 B3 a0 a1 a2 a3 R O) (f0 : Fa a0 B0 g0) (f1 : Fa a1 B1 g1) (f2 : Fa a2 B2 g2) (f3 : Fa a3 B3 g3) {i : Nat} (hi : i ≤ B0 + B1 + B2 + B3) : -12 ≤ R i ∧ R i ≤ 12 := by
  have l0 := f0.al; have m0 := f0.ah
  have l1 := f1.al; have m1 := f1.ah
  have l2 := f2.al; have m2 := f2.ah
  have l3 := f3.al; have m3 := f3.ah
  refine seg_cases (φ := fun i => -12 ≤ R i ∧ R i ≤ 12) hi (fun t ht => ?_) (fun t ht => ?_) (fun t ht => ?_) (fun t ht => ?_) ?_
  · rw [(h.r0 t ht).1]; have := fd3 f0.b3 l0 m0 ht; revert this; generalize (a0 * (t : Int)).fdiv B0 = z; lia
  · rw [(h.r1 t ht).1]; have := fd3 f1.b3 l1 m1 ht; revert this; generalize (a1 * (t : Int)).fdiv B1 = z; lia
  · rw [(h.r2 t ht).1]; have := fd3 f2.b3 l2 m2 ht; revert this; generalize (a2 * (t : Int)).fdiv B2 = z; lia
  · rw [(h.r3 t ht).1]; have := fd3 f3.b3 l3 m3 ht; revert this; generalize (a3 * (t : Int)).fdiv B3 = z; lia
  · rw [h.r4.1]; lia
end
end Mine

-- FILE PL5
open PySem PySem.W PyProof.Rows
set_option Elab.async false
set_option autoImplicit false
set_option maxRecDepth 100000
namespace Mine
theorem sm_D (R O L U : Nat → Int) : ∀ n : Nat, sm (fun i => R i - O i - L i - U i + 1) n = sm R n - sm O n - sm L n - sm U n + n
  | 0 => rfl
  | n + 1 => by rw [sm_succ, sm_succ, sm_succ, sm_succ, sm_succ, sm_D R O L U n]; lia
theorem fd63 {x b p : Int} (e : x = 63 * b + p) (h1 : 1 ≤ p) (h2 : p ≤ 62) : x.fdiv 63 = b ∧ x.fmod 63 = p ∧ x.fdiv (-63) = -1 - b ∧ x.fmod (-63) = p - 63 := by
  have e1 : x.fdiv (-63) = (-x).fdiv 63 := by rw [← Int.neg_fdiv_neg (a := -x), Int.neg_neg]
  have e2 : x.fmod (-63) = -((-x).fmod 63) := by rw [← Int.neg_fmod_neg, Int.neg_neg]
  rw [e1, e2, Int.fdiv_eq_ediv_of_nonneg _ (by decide), Int.fdiv_eq_ediv_of_nonneg _ (by decide), Int.fmod_eq_emod_of_nonneg _ (by decide), Int.fmod_eq_emod_of_nonneg _ (by decide)]
  lia
section
variable {B0 B1 B2 B3 : Nat} {a0 a1 a2 a3 g0 g1 g2 g3 : Int} {R O L U X Y DX DY : Nat → Int}
/-- the four steps: what is known of each, and of any two -/
structure Row4 (B0 B1 B2 B3 : Nat) (a0 a1 a2 a3 g0 g1 g2 g3 : Int) : Prop where
  f0 : Fa a0 B0 g0
  f1 : Fa a1 B1 g1
  f2 : Fa a2 B2 g2
  f3 : Fa a3 B3 g3
  z1 : B1 = 0 → B0 = 0
  z2 : B2 = 0 → B1 = 0
  z3 : B3 = 0 → B2 = 0
  cr : crs a0 B0 a1 B1 a2 B2 a3 B3 = crP a0 B0 a1 B1 a2 B2 a3 B3
  c0 : 0 ≤ crP a0 B0 a1 B1 a2 B2 a3 B3
  le : g0 + g1 + g2 + g3 + crP a0 B0 a1 B1 a2 B2 a3 B3 ≤ 61
theorem Row4.flat (r : Row4 B0 B1 B2 B3 a0 a1 a2 a3 g0 g1 g2 g3) (h : B3 = 0) : crP a0 B0 a1 B1 a2 B2 a3 B3 = 0 := by
  have e2 := r.z3 h
  have e1 := r.z2 e2
  have e0 := r.z1 e1
  subst e0 e1 e2 h
  have : ((0 : Nat) : Int) = 0 := rfl
  simp [crP]
structure Mir (h : Nat) (W : Int) (R O L U : Nat → Int) : Prop where
  l : ∀ i, i < h + 1 → L i = W - R (h - i)
  u : ∀ i, i < h + 1 → U i = O (h - i)
theorem Mir.sL {h : Nat} {W : Int} (m : Mir h W R O L U) : sm L (h + 1) = ((h + 1 : Nat) : Int) * W - sm R (h + 1) := by
  rw [sm_congr m.l, sm_csub, sm_rev]
theorem Mir.sU {h : Nat} {W : Int} (m : Mir h W R O L U) : sm U (h + 1) = sm O (h + 1) := by
  rw [sm_congr m.u, sm_rev]
theorem pts_law (r : Row4 B0 B1 B2 B3 a0 a1 a2 a3 g0 g1 g2 g3) (t : Rt B0 B1 B2 B3 a0 a1 a2 a3 R O) (m : Mir (B0 + B1 + B2 + B3) (a0 + a1 + a2 + a3) R O L U) : ptsE R L (B0 + B1 + B2 + B3 + 1) = 1 + (g0 + g1 + g2 + g3) + crP a0 B0 a1 B1 a2 B2 a3 B3 := by
  have e := alg2 (W := a0 + a1 + a2 + a3) (alg r.f0.f r.f1.f r.f2.f r.f3.f)
  rw [pts_sm, m.sL, t.sum.1, ← e]
  simp only [Int.natCast_add, Int.natCast_one]
theorem inn_law (r : Row4 B0 B1 B2 B3 a0 a1 a2 a3 g0 g1 g2 g3) (t : Rt B0 B1 B2 B3 a0 a1 a2 a3 R O) (m : Mir (B0 + B1 + B2 + B3) (a0 + a1 + a2 + a3) R O L U) (h3 : ¬ B3 = 0) : innE R O L U (B0 + B1 + B2 + B3) (B0 + B1 + B2 + B3 + 1) = 1 - (g0 + g1 + g2 + g3) + crP a0 B0 a1 B1 a2 B2 a3 B3 := by
  have hp := pts_law r t m
  obtain ⟨k1, k2⟩ := t.zero r.f0 r.f1 r.f2 r.f3 r.z1 r.z2 r.z3 h3
  have sO := t.sum.2
  obtain ⟨w1, w2⟩ := t.r4
  obtain ⟨h, hh⟩ : ∃ h, B0 + B1 + B2 + B3 = h + 1 := ⟨B0 + B1 + B2 + B3 - 1, by lia⟩
  rw [hh] at hp sO m w1 w2 ⊢
  have sU := m.sU
  have l0 := m.l 0 (Nat.succ_pos _)
  have u0 := m.u 0 (Nat.succ_pos _)
  have l1 := m.l (h + 1) (Nat.lt_succ_self _)
  have u1 := m.u (h + 1) (Nat.lt_succ_self _)
  rw [Nat.sub_zero] at l0 u0
  rw [Nat.sub_self] at l1 u1
  rw [pts_sm] at hp
  rw [inn_all, sm_D, sU, l0, u0, l1, u1, w1, w2, k1]
  generalize crP a0 B0 a1 B1 a2 B2 a3 B3 = C at *
  generalize sm R (h + 1 + 1) = sR at *
  generalize sm L (h + 1 + 1) = sL at *
  generalize sm O (h + 1 + 1) = sO' at *
  clear r t m l0 l1 u0 u1 w1 w2 sU
  lia
end
end Mine

-- FILE J1
open PySem PySem.W PyProof.Rows
set_option Elab.async false
set_option autoImplicit false
set_option maxRecDepth 100000
namespace Mine
theorem cnt_wr {p q r v : Nat} (hp : p < 4) (hq : q < 4) (hr : r < 4) (hv : v < 3) : cnt 10 (wr p q r v) = nl p + nl q + nl r := by
  obtain rfl | rfl | rfl : v = 0 ∨ v = 1 ∨ v = 2 := by lia
  · exact all64 (φ := fun p q r => cnt 10 (wr p q r 0) = nl p + nl q + nl r) (by decide +kernel) hp hq hr
  · exact all64 (φ := fun p q r => cnt 10 (wr p q r 1) = nl p + nl q + nl r) (by decide +kernel) hp hq hr
  · exact all64 (φ := fun p q r => cnt 10 (wr p q r 2) = nl p + nl q + nl r) (by decide +kernel) hp hq hr
theorem count_txt {w0 w1 w2 w3 : W3} {v0 v1 v2 v3 : Nat} (o0 : w0.ok) (o1 : w1.ok) (o2 : w2.ok) (o3 : w3.ok) (h0 : v0 < 3) (h1 : v1 < 3) (h2 : v2 < 3) (h3 : v3 < 3) : 1 + nlw w0 + nlw w1 + nlw w2 + nlw w3 = 1 + Txt.count ⟨(txt w0 w1 w2 w3 v0 v1 v2 v3).toArray⟩ (Str.ofString "\n") := by
  have e : Txt.count ⟨(txt w0 w1 w2 w3 v0 v1 v2 v3).toArray⟩ (Str.ofString "\n") = cnt 10 (txt w0 w1 w2 w3 v0 v1 v2 v3) := count_is _ 10
  rw [e, txt, cnt_append, cnt_append, cnt_append, wrW, wrW, wrW, wrW, cnt_wr o0.1 o0.2.1 o0.2.2 h0, cnt_wr o1.1 o1.2.1 o1.2.2 h1, cnt_wr o2.1 o2.2.1 o2.2.2 h2, cnt_wr o3.1 o3.2.1 o3.2.2 h3]
  unfold nlw
  lia
theorem txt_len {w0 w1 w2 w3 : W3} {v0 v1 v2 v3 : Nat} (h0 : v0 < 3) (h1 : v1 < 3) (h2 : v2 < 3) (h3 : v3 < 3) : (txt w0 w1 w2 w3 v0 v1 v2 v3).length ≤ 1000 :=
  Nat.le_trans (app_le (wr_len h0) (app_le (wr_len h1) (app_le (wr_len h2) (wr_len h3) (Nat.le_refl _)) (Nat.le_refl _)) (Nat.le_refl _)) (by decide)
theorem Cn.ok {y : W3} (h : Cn y) : y.ok := by obtain ⟨w, hw, rfl⟩ := h; exact cn_ok hw
theorem Cn.fa {y : W3} (h : Cn y) : ∃ B : Nat, stpY y = B ∧ Fa (stpX y) B (meas 4 (stpX y) (stpY y)) := by
  obtain ⟨⟨b0, b3⟩, ⟨al, ah⟩, f, o, z, g0⟩ := s4_f _ (can_mem h)
  obtain ⟨B, hB⟩ := Int.eq_ofNat_of_zero_le b0
  have hB : stpY y = B := hB
  refine ⟨B, hB, by have : stpY y ≤ 3 := b3; lia, al, ah, ?_, ?_, fun h => z (by show stpY y = 0; lia), g0⟩
  · have f : 2 * tF (stpX y) (stpY y) = stpX y * stpY y - stpX y - stpY y + meas 4 (stpX y) (stpY y) := f
    rw [hB] at f ⊢
    exact f
  · have o : tO (stpX y) (stpY y) = if stpY y = 0 then 0 else meas 4 (stpX y) (stpY y) := o
    rw [hB] at o ⊢
    rw [o]
    by_cases h : B = 0
    · subst h; rfl
    · rw [if_neg h, if_neg (by lia)]
/-- what is known of the row: its words, each up or flat to the right, by their ways -/
structure Sorted (y0 y1 y2 y3 : W3) : Prop where
  c0 : Cn y0
  c1 : Cn y1
  c2 : Cn y2
  c3 : Cn y3
  w01 : wayW y0 ≤ wayW y1
  w12 : wayW y1 ≤ wayW y2
  w23 : wayW y2 ≤ wayW y3
theorem s4_le {s t u v : Int × Int × Int × Int} (hs : s ∈ S4) (ht : t ∈ S4) (hu : u ∈ S4) (hv : v ∈ S4) (h1 : s.2.2.1 ≤ t.2.2.1) (h2 : t.2.2.1 ≤ u.2.2.1) (h3 : u.2.2.1 ≤ v.2.2.1) :
    s.2.2.2 + t.2.2.2 + u.2.2.2 + v.2.2.2 + (s.1 * t.2.1 - s.2.1 * t.1) + ((s.1 + t.1) * u.2.1 - (s.2.1 + t.2.1) * u.1) + ((s.1 + t.1 + u.1) * v.2.1 - (s.2.1 + t.2.1 + u.2.1) * v.1) ≤ 61 := by
  have k := List.all_eq_true.mp (List.all_eq_true.mp s4_4 s hs) t ht
  rw [decide_eq_false (Int.not_lt.mpr h1), Bool.false_or] at k
  have k := List.all_eq_true.mp k u hu
  rw [decide_eq_false (Int.not_lt.mpr h2), Bool.false_or] at k
  have k := List.all_eq_true.mp k v hv
  rw [decide_eq_false (Int.not_lt.mpr h3), Bool.false_or] at k
  exact of_decide_eq_true k
theorem row4_of {y0 y1 y2 y3 : W3} (h : Sorted y0 y1 y2 y3) : ∃ B0 B1 B2 B3 : Nat, stpY y0 = B0 ∧ stpY y1 = B1 ∧ stpY y2 = B2 ∧ stpY y3 = B3 ∧
    Row4 B0 B1 B2 B3 (stpX y0) (stpX y1) (stpX y2) (stpX y3) (meas 4 (stpX y0) (stpY y0)) (meas 4 (stpX y1) (stpY y1)) (meas 4 (stpX y2) (stpY y2)) (meas 4 (stpX y3) (stpY y3)) := by
  have m0 := can_mem h.c0
  have m1 := can_mem h.c1
  have m2 := can_mem h.c2
  have m3 := can_mem h.c3
  have d01 := s4_2 _ m0 _ m1 h.w01
  have d02 := s4_2 _ m0 _ m2 (Int.le_trans h.w01 h.w12)
  have d03 := s4_2 _ m0 _ m3 (Int.le_trans h.w01 (Int.le_trans h.w12 h.w23))
  have d12 := s4_2 _ m1 _ m2 h.w12
  have d13 := s4_2 _ m1 _ m3 (Int.le_trans h.w12 h.w23)
  have d23 := s4_2 _ m2 _ m3 h.w23
  have le := s4_le m0 m1 m2 m3 h.w01 h.w12 h.w23
  dsimp only at d01 d02 d03 d12 d13 d23 le
  obtain ⟨B0, e0, f0⟩ := h.c0.fa
  obtain ⟨B1, e1, f1⟩ := h.c1.fa
  obtain ⟨B2, e2, f2⟩ := h.c2.fa
  obtain ⟨B3, e3, f3⟩ := h.c3.fa
  generalize meas 4 (stpX y0) (stpY y0) = g0 at *
  generalize meas 4 (stpX y1) (stpY y1) = g1 at *
  generalize meas 4 (stpX y2) (stpY y2) = g2 at *
  generalize meas 4 (stpX y3) (stpY y3) = g3 at *
  rw [e0, e1, e2, e3] at le
  rw [e0, e1] at d01
  rw [e0, e2] at d02
  rw [e0, e3] at d03
  rw [e1, e2] at d12
  rw [e1, e3] at d13
  rw [e2, e3] at d23
  have c := crs_P d01.1 d02.1 d12.1 d03.1 d13.1 d23.1
  refine ⟨B0, B1, B2, B3, e0, e1, e2, e3, f0, f1, f2, f3, fun q => Int.ofNat.inj (d01.2 (congrArg Int.ofNat q)), fun q => Int.ofNat.inj (d12.2 (congrArg Int.ofNat q)), fun q => Int.ofNat.inj (d23.2 (congrArg Int.ofNat q)), c.1, c.2, ?_⟩
  rw [crP, ← Int.add_assoc, ← Int.add_assoc]
  exact le
theorem tr4 {late : Nat} (hl : late < 2) {x0 x1 x2 x3 : W3} (h0 : Cn x0) (h1 : Cn x1) (h2 : Cn x2) (h3 : Cn x3) : ∃ y0 y1 y2 y3 : W3, rowX late x0 x1 x2 x3 = [y0, y1, y2, y3] ∧ Sorted y0 y1 y2 y3 := by
  obtain ⟨T, e, p, q⟩ := row_tr hl h0 h1 h2 h3
  have hlen := q.length_eq
  obtain ⟨a, b, c, d, rfl⟩ := len4 hlen
  have hm : ∀ z ∈ [a, b, c, d], Cn z.1 ∧ z.2 ≤ 3 := fun z hz => by
    have := q.mem_iff.mp hz
    simp only [List.mem_cons, List.not_mem_nil, or_false] at this
    rcases this with rfl | rfl | rfl | rfl
    · exact ⟨h3, Nat.le_of_ble_eq_true rfl⟩
    · exact ⟨h2, Nat.le_of_ble_eq_true rfl⟩
    · exact ⟨h1, Nat.le_of_ble_eq_true rfl⟩
    · exact ⟨h0, Nat.le_of_ble_eq_true rfl⟩
  have ma := hm a (by simp)
  have mb := hm b (by simp)
  have mc := hm c (by simp)
  have md := hm d (by simp)
  simp only [List.pairwise_cons, List.mem_cons, List.not_mem_nil, or_false] at p
  exact ⟨a.1, b.1, c.1, d.1, e, ma.1, mb.1, mc.1, md.1, key_way hl ma.2 mb.2 (p.1 b (.inl rfl)), key_way hl mb.2 mc.2 (p.2.1 c (.inl rfl)), key_way hl mc.2 md.2 (p.2.2.1 d rfl)⟩
end Mine

-- FILE J2
open PySem PySem.W PyProof.Rows
set_option Elab.async false
set_option autoImplicit false
set_option maxRecDepth 100000
namespace Mine
structure Ab (k x : Int) : Prop where
  l : -k ≤ x
  h : x ≤ k
theorem Ab.add {k m x y : Int} (a : Ab k x) (b : Ab m y) : Ab (k + m) (x + y) := ⟨by rw [Int.neg_add]; exact Int.add_le_add a.l b.l, Int.add_le_add a.h b.h⟩
theorem Ab.le {k m x : Int} (a : Ab k x) (h : k ≤ m) : Ab m x := ⟨Int.le_trans (Int.neg_le_neg h) a.l, Int.le_trans a.h h⟩
theorem Ab.sub {k m x y : Int} (a : Ab k x) (b : Ab m y) : Ab (k + m) (x - y) := ⟨by rw [Int.neg_add]; exact Int.add_le_add a.l (Int.neg_le_neg b.h), Int.add_le_add a.h (by have := Int.neg_le_neg b.l; rwa [Int.neg_neg] at this)⟩
theorem ab_nat {k m : Nat} (h : k ≤ m) : Ab m k := ⟨Int.le_trans (Int.neg_nonpos_of_nonneg (Int.natCast_nonneg m)) (Int.natCast_nonneg k), Int.ofNat_le.mpr h⟩
theorem small_of {x : Int} (h : Ab 24 x) : Small x := ⟨by have := h.l; lia, by have := h.h; lia⟩
section
variable {W : Wd} {P : Params} {n : Nat} {H L : List AO} {ae : AE}
variable {line : Int} {e : NE} {ac up : Int} {q0 q1 q2 q3 : Str} {B0 B1 B2 B3 : Nat} {a0 a1 a2 a3 g0 g1 g2 g3 : Int}
theorem st_p {x a : Int} : st 1 x a = x + a := by unfold st; lia
theorem st_m {x a : Int} : st (-1) x a = x - a := by unfold st; lia
theorem pk5_sub {s a b c d e : Int} : ∀ i, pk5 (s - a) (s - b) (s - c) (s - d) (s - e) i = s - pk5 a b c d e i
  | 0 => rfl
  | 1 => rfl
  | 2 => rfl
  | 3 => rfl
  | _ + 4 => rfl
theorem end_facts (r : Row4 B0 B1 B2 B3 a0 a1 a2 a3 g0 g1 g2 g3) {X1 Y1 X2 Y2 X3 Y3 X4 Y4 X5 Y5 X6 Y6 X7 Y7 X8 Y8 b0 b1 b2 b3 : Int} (hb0 : b0 = B0) (hb1 : b1 = B1) (hb2 : b2 = B2) (hb3 : b3 = B3)
    (x1 : X1 = a0) (x2 : X2 = a0 + a1) (x3 : X3 = a0 + a1 + a2) (x4 : X4 = a0 + a1 + a2 + a3) (y1 : Y1 = B0) (y2 : Y2 = (B0 + B1 : Nat)) (y3 : Y3 = (B0 + B1 + B2 : Nat)) (y4 : Y4 = (B0 + B1 + B2 + B3 : Nat))
    (x5 : X5 = X4 - X1) (x6 : X6 = X4 - X2) (x7 : X7 = X4 - X3) (x8 : X8 = X4 - X4) (y5 : Y5 = Y4 - Y1) (y6 : Y6 = Y4 - Y2) (y7 : Y7 = Y4 - Y3) (y8 : Y8 = Y4 - Y4)
    {X Y X' Y' DX DY : Nat → Int} (eX : X = pk5 0 X1 X2 X3 X4) (eY : Y = pk5 0 Y1 Y2 Y3 Y4) (eX' : X' = pk5 X4 X5 X6 X7 X8) (eY' : Y' = pk5 Y4 Y5 Y6 Y7 Y8) (eDX : DX = pk5 a0 a1 a2 a3 0) (eDY : DY = pk5 b0 b1 b2 b3 1) :
    B0 + B1 + B2 + B3 ≤ 12 ∧ Side X Y DX DY 1 (B0 + B1 + B2 + B3) ∧ Side X' Y' DX DY (-1) (B0 + B1 + B2 + B3) ∧ Rt B0 B1 B2 B3 a0 a1 a2 a3 (fun i => rE X Y DX DY 1 i) (fun i => tE Y DX DY 1 i) ∧
      Mir (B0 + B1 + B2 + B3) (a0 + a1 + a2 + a3) (fun i : Nat => rE X Y DX DY 1 i) (fun i : Nat => tE Y DX DY 1 i) (fun i : Nat => rE X' Y' DX DY (-1) i) (fun i : Nat => tE Y' DX DY (-1) i) := by
  have l0 : Ab 3 a0 := ⟨r.f0.al, r.f0.ah⟩
  have l1 : Ab 3 a1 := ⟨r.f1.al, r.f1.ah⟩
  have l2 : Ab 3 a2 := ⟨r.f2.al, r.f2.ah⟩
  have l3 : Ab 3 a3 := ⟨r.f3.al, r.f3.ah⟩
  have n0 : Ab 3 B0 := ab_nat r.f0.b3
  have n1 : Ab 3 B1 := ab_nat r.f1.b3
  have n2 : Ab 3 B2 := ab_nat r.f2.b3
  have n3 : Ab 3 B3 := ab_nat r.f3.b3
  have hh : B0 + B1 + B2 + B3 ≤ 12 := Nat.add_le_add (Nat.add_le_add (Nat.add_le_add r.f0.b3 r.f1.b3) r.f2.b3) r.f3.b3
  subst x1 x2 x3 x4 x5 x6 x7 x8
  have hX' : ∀ i, X' i = (X1 + a1 + a2 + a3) - X i := fun i => by
    rw [eX', eX, ← pk5_sub, Int.sub_zero]
  have hY' : ∀ i, Y' i = Y4 - Y i := fun i => by
    rw [eY', eY, y5, y6, y7, y8, ← pk5_sub, Int.sub_zero]
  have a2' := l0.add l1
  have a3' := a2'.add l2
  have a4' := a3'.add l3
  have z : Ab 12 0 := ⟨by decide, by decide⟩
  have sX : ∀ i, Ab 12 (X i) := fun i => by
    rw [eX]
    exact pk5_all z (l0.le (by decide)) (a2'.le (by decide)) (a3'.le (by decide)) a4' i
  have b4' : Ab 12 Y4 := by rw [y4]; exact ab_nat hh
  have sY : ∀ i, Ab 12 (Y i) := fun i => by
    rw [eY, y1, y2, y3]
    exact pk5_all z (n0.le (by decide)) ((n0.add n1).le (by decide)) (((n0.add n1).add n2).le (by decide)) b4' i
  have sDX : ∀ i, Small (DX i) := fun i => small_of (by
    rw [eDX]
    exact pk5_all (l0.le (by decide)) (l1.le (by decide)) (l2.le (by decide)) (l3.le (by decide)) (z.le (by decide)) i)
  have sDY : ∀ i, Small (DY i) := fun i => small_of (by
    rw [eDY, hb0, hb1, hb2, hb3]
    exact pk5_all (n0.le (by decide)) (n1.le (by decide)) (n2.le (by decide)) (n3.le (by decide)) ⟨by decide, by decide⟩ i)
  have eY2 : Y = pk5 0 B0 (B0 + B1 : Nat) (B0 + B1 + B2 : Nat) (B0 + B1 + B2 + B3 : Nat) := by rw [eY, y1, y2, y3, y4]
  have eDY2 : DY = pk5 B0 B1 B2 B3 1 := by rw [eDY, hb0, hb1, hb2, hb3]
  have K := kat_of eY2
  have hsub : ∀ i : Nat, i < B0 + B1 + B2 + B3 + 1 → Y4 - (i : Int) = ((B0 + B1 + B2 + B3 - i : Nat) : Int) := fun i hi => by rw [y4]; exact (Int.ofNat_sub (Nat.le_of_lt_succ hi)).symm
  exact ⟨hh, ⟨fun i => small_of ((sX i).le (by decide)), fun i => small_of ((sY i).le (by decide)), sDX, sDY, fun i hi => at_of K eDY2 hi⟩,
    ⟨fun i => by rw [hX']; exact small_of (a4'.sub (sX i)), fun i => by rw [hY']; exact small_of (b4'.sub (sY i)), sDX, sDY, fun i hi => by
      rw [kat_mir hY', hsub i (Nat.lt_succ_of_le hi)]
      exact at_of K eDY2 (Nat.sub_le _ _)⟩, rt_of eX eY2 eDX eDY2, ⟨fun i hi => by rw [rE_mir hX' hY', hsub i hi], fun i hi => by rw [tE_mir hY', hsub i hi]⟩⟩
theorem end_facts2 (r : Row4 B0 B1 B2 B3 a0 a1 a2 a3 g0 g1 g2 g3) {b0 b1 b2 b3 me cr : Int} (hb0 : b0 = B0) (hb1 : b1 = B1) (hb2 : b2 = B2) (hb3 : b3 = B3) (hme : me = [g0, g1, g2, g3].sum) (hcr : cr = crs a0 b0 a1 b1 a2 b2 a3 b3) {R O Lf U : Nat → Int}
    (hh : B0 + B1 + B2 + B3 ≤ 12) (t : Rt B0 B1 B2 B3 a0 a1 a2 a3 R O) (mir : Mir (B0 + B1 + B2 + B3) (a0 + a1 + a2 + a3) R O Lf U) {wh be p inn : Int} (ew : wh = whoE R Lf (B0 + B1 + B2 + B3 + 1)) (eb : be = belE R Lf (B0 + B1 + B2 + B3 + 1)) (ep : p = ptsE R Lf (B0 + B1 + B2 + B3 + 1)) (ei : inn = innE R O Lf U (B0 + B1 + B2 + B3) (B0 + B1 + B2 + B3 + 1)) :
    (wh.fdiv 63 = be ∧ wh.fmod 63 = p ∧ wh.fdiv (-63) = -1 - be ∧ wh.fmod (-63) = p - 63) ∧ wh.natAbs < 2 ^ 100 ∧ p = 1 + me + cr ∧ (cr = 0 ∨ inn = 1 - me + cr) := by
  have hp := pts_law r t mir
  have hme2 : me = g0 + g1 + g2 + g3 := by rw [hme]; simp only [List.sum_cons, List.sum_nil]; lia
  have hcr2 : cr = crP a0 B0 a1 B1 a2 B2 a3 B3 := by rw [hcr, hb0, hb1, hb2, hb3]; exact r.cr
  rw [← hcr2, ← hme2, ← ep] at hp
  refine ⟨fd63 ?_ ?_ ?_, ?_, hp, ?_⟩
  · rw [ew, eb, ep]; exact who_bel R Lf (B0 + B1 + B2 + B3 + 1)
  · have c0 := r.c0
    have g0' := r.f0.g0
    have g1' := r.f1.g0
    have g2' := r.f2.g0
    have g3' := r.f3.g0
    rw [← hcr2] at c0
    lia
  · have le := r.le
    rw [← hcr2] at le
    lia
  · have k := who_le (R := R) (L := Lf) (n := B0 + B1 + B2 + B3 + 1) fun i hi => by
      have k1 := t.small r.f0 r.f1 r.f2 r.f3 (Nat.le_of_lt_succ hi)
      have k2 := t.small r.f0 r.f1 r.f2 r.f3 (Nat.sub_le (B0 + B1 + B2 + B3) i)
      have l0 := r.f0.al; have m0 := r.f0.ah
      have l1 := r.f1.al; have m1 := r.f1.ah
      have l2 := r.f2.al; have m2 := r.f2.ah
      have l3 := r.f3.al; have m3 := r.f3.ah
      rw [mir.l i hi]
      lia
    rw [ew]
    exact Nat.lt_trans k (Nat.lt_of_le_of_lt (Nat.pow_le_pow_right (by decide) (Nat.succ_le_succ hh)) (by decide))
  · by_cases h3 : B3 = 0
    · exact .inl (hcr2.trans (r.flat h3))
    · exact .inr (by rw [ei, inn_law r t mir h3, hme2, hcr2])
theorem end_el {G : Prop} (r : Row4 B0 B1 B2 B3 a0 a1 a2 a3 g0 g1 g2 g3) {X1 Y1 X2 Y2 X3 Y3 X4 Y4 X5 Y5 X6 Y6 X7 Y7 X8 Y8 b0 b1 b2 b3 : Int} (hb0 : b0 = B0) (hb1 : b1 = B1) (hb2 : b2 = B2) (hb3 : b3 = B3)
    (x1 : X1 = a0) (x2 : X2 = a0 + a1) (x3 : X3 = a0 + a1 + a2) (x4 : X4 = a0 + a1 + a2 + a3) (y1 : Y1 = B0) (y2 : Y2 = (B0 + B1 : Nat)) (y3 : Y3 = (B0 + B1 + B2 : Nat)) (y4 : Y4 = (B0 + B1 + B2 + B3 : Nat))
    (x5 : X5 = X4 - X1) (x6 : X6 = X4 - X2) (x7 : X7 = X4 - X3) (x8 : X8 = X4 - X4) (y5 : Y5 = Y4 - Y1) (y6 : Y6 = Y4 - Y2) (y7 : Y7 = Y4 - Y3) (y8 : Y8 = Y4 - Y4)
    (k : ∀ X Y X' Y' DX DY R O Lf U : Nat → Int, X = pk5 0 X1 X2 X3 X4 → Y = pk5 0 Y1 Y2 Y3 Y4 → X' = pk5 X4 X5 X6 X7 X8 → Y' = pk5 Y4 Y5 Y6 Y7 Y8 → DX = pk5 a0 a1 a2 a3 0 → DY = pk5 b0 b1 b2 b3 1 →
      (R = fun i : Nat => rE X Y DX DY 1 i) → (O = fun i : Nat => tE Y DX DY 1 i) → (Lf = fun i : Nat => rE X' Y' DX DY (-1) i) → (U = fun i : Nat => tE Y' DX DY (-1) i) → B0 + B1 + B2 + B3 ≤ 12 → Side X Y DX DY 1 (B0 + B1 + B2 + B3) → Side X' Y' DX DY (-1) (B0 + B1 + B2 + B3) →
      Rt B0 B1 B2 B3 a0 a1 a2 a3 R O → Mir (B0 + B1 + B2 + B3) (a0 + a1 + a2 + a3) R O Lf U → G) : G :=
  have F := end_facts r hb0 hb1 hb2 hb3 x1 x2 x3 x4 y1 y2 y3 y4 x5 x6 x7 x8 y5 y6 y7 y8 rfl rfl rfl rfl rfl rfl
  k _ _ _ _ _ _ _ _ _ _ rfl rfl rfl rfl rfl rfl rfl rfl rfl rfl F.1 F.2.1 F.2.2.1 F.2.2.2.1 F.2.2.2.2
theorem lawEnd (w : Wo W P (glOf P)) (r : Row4 B0 B1 B2 B3 a0 a1 a2 a3 g0 g1 g2 g3) {X1 Y1 X2 Y2 X3 Y3 X4 Y4 X5 Y5 X6 Y6 X7 Y7 X8 Y8 b0 b1 b2 b3 me cr : Int} (hb0 : b0 = B0) (hb1 : b1 = B1) (hb2 : b2 = B2) (hb3 : b3 = B3)
    (x1 : X1 = a0) (x2 : X2 = a0 + a1) (x3 : X3 = a0 + a1 + a2) (x4 : X4 = a0 + a1 + a2 + a3) (y1 : Y1 = B0) (y2 : Y2 = (B0 + B1 : Nat)) (y3 : Y3 = (B0 + B1 + B2 : Nat)) (y4 : Y4 = (B0 + B1 + B2 + B3 : Nat))
    (x5 : X5 = X4 - X1) (x6 : X6 = X4 - X2) (x7 : X7 = X4 - X3) (x8 : X8 = X4 - X4) (y5 : Y5 = Y4 - Y1) (y6 : Y6 = Y4 - Y2) (y7 : Y7 = Y4 - Y3) (y8 : Y8 = Y4 - Y4) (hme : me = [g0, g1, g2, g3].sum) (hcr : cr = crs a0 b0 a1 b1 a2 b2 a3 b3) :
    Exs W (n + 199) (lawAE P) (lawV P line e ac up q0 q1 q2 q3 X1 Y1 X2 Y2 X3 Y3 X4 Y4 X5 Y5 X6 Y6 X7 Y7 X8 Y8 a0 b0 a1 b1 a2 b2 a3 b3 me cr 0 0 0 0 [] []) ((lawB P).drop 26) lawQ :=
  end_el r hb0 hb1 hb2 hb3 x1 x2 x3 x4 y1 y2 y3 y4 x5 x6 x7 x8 y5 y6 y7 y8 fun _ _ _ _ _ _ _ _ _ _ eX eY eX' eY' eDX eDY eR eO eL eU hh hA hB t mir =>
    seg12 w (Nat.le_trans hh (by decide)) y4 eX eY eX' eY' eDX eDY hA hB eR eO eL eU fun _ _ _ _ _ =>
      have G := end_facts2 r hb0 hb1 hb2 hb3 hme hcr hh t mir rfl rfl rfl rfl
      seg13 w G.1.1 G.1.2.1 G.1.2.2.1 G.1.2.2.2 G.2.1 G.2.2.1 G.2.2.2
end
end Mine

-- FILE J3
open PySem PySem.W PyProof.Rows
set_option Elab.async false
set_option autoImplicit false
set_option maxRecDepth 100000
namespace Mine
section
variable {W : Wd} {P : Params} {n : Nat}
theorem law_row (w : Wo W P (glOf P)) {line : Int} {v : Nat} {word : Str} {e : NE} {ac up : Int} {y0 y1 y2 y3 : W3} (s : Sorted y0 y1 y2 y3) (hc : line = 1 + Txt.count e.T (Str.ofString "\n")) :
    Exs W (n + 199) (lawAE P) (lawS P line (post v ++ [101, 110, 100]) [] (nsE e word ac up []) (.cell none) [.lst [.str y0.str, .str y1.str, .str y2.str, .str y3.str], .junk, .junk, .junk, .junk, .junk, .junk, .junk]) ((lawB P).drop 12) lawQ := by
  obtain ⟨B0, B1, B2, B3, e0, e1, e2, e3, r⟩ := row4_of s
  have o0 := s.c0.ok
  have o1 := s.c1.ok
  have o2 := s.c2.ok
  have o3 := s.c3.ok
  obtain ⟨q0, h0⟩ : ∃ q, q = y0.str := ⟨_, rfl⟩
  obtain ⟨q1, h1⟩ : ∃ q, q = y1.str := ⟨_, rfl⟩
  obtain ⟨q2, h2⟩ : ∃ q, q = y2.str := ⟨_, rfl⟩
  obtain ⟨q3, h3⟩ : ∃ q, q = y3.str := ⟨_, rfl⟩
  rw [← h0, ← h1, ← h2, ← h3]
  refine seg8 w (seg9 w o0 o1 o2 o3 h0 h1 h2 h3 (seg10 w hc rfl (seg11 w o0 o1 o2 o3 h0 h1 h2 h3 rfl fun me cr hme hcr => ?_)))
  exact lawEnd w r e0 e1 e2 e3 (by simp only [st_p]; lia) (by simp only [st_p]; lia) (by simp only [st_p]; lia) (by simp only [st_p]; lia) (by simp only [st_p]; lia) (by simp only [st_p]; lia) (by simp only [st_p]; lia) (by simp only [st_p]; lia)
    (by simp only [st_p, st_m]; lia) (by simp only [st_p, st_m]; lia) (by simp only [st_p, st_m]; lia) (by simp only [st_p, st_m]; lia) (by simp only [st_p, st_m]; lia) (by simp only [st_p, st_m]; lia) (by simp only [st_p, st_m]; lia) (by simp only [st_p, st_m]; lia) hme hcr
theorem law_true (w : Wo W P (glOf P)) {us : Addr} {ns : List Int} (hs : ScriptAt W us ns) (hu : ns.length ≤ 63) : Cl W (n + 200) [.junk] (.gref 217) [.gref us] [] [] fun v _ => v = .bool true := by
  refine seg0 w (seg1 w hs hu fun t0 t1 t2 t3 _ _ _ _ => seg2 w fun w0 w1 w2 w3 o0 o1 o2 o3 => seg3 w o0 o1 o2 o3 fun v0 v1 v2 v3 h0 h1 h2 h3 => seg4 w (txt_len h0 h1 h2 h3) (seg5 w o0 o1 o2 o3 h0 h1 h2 h3 ?_))
  refine seg6 w o0 o1 o2 o3 (p0 := w0.str) (p1 := w1.str) (p2 := w2.str) (p3 := w3.str) rfl rfl rfl rfl (s0 := w0.str) (s1 := w1.str) (s2 := w2.str) (s3 := w3.str) rfl rfl rfl rfl (t0 / 192 % 2) rfl fun r g b t l x1 x2 x3 x4 x5 x6 ac up i1 i2 i3 i4 => ?_
  have hl : t0 / 192 % 2 < 2 := Nat.mod_lt _ (by decide)
  have c0 : Cn (cn w0) := ⟨w0, o0, rfl⟩
  have c1 : Cn (cn w1) := ⟨w1, o1, rfl⟩
  have c2 : Cn (cn w2) := ⟨w2, o2, rfl⟩
  have c3 : Cn (cn w3) := ⟨w3, o3, rfl⟩
  obtain ⟨y0, y1, y2, y3, eR, s⟩ := tr4 hl c0 c1 c2 c3
  refine seg7 w hl c0 c1 c2 c3 (seg8a (q0 := y0.str) (q1 := y1.str) (q2 := y2.str) (q3 := y3.str) (by rw [eR]; rfl) fun e he => law_row w s ?_)
  rw [he]
  exact count_txt o0 o1 o2 o3 h0 h1 h2 h3
end
end Mine

-- FILE TH
open PySem PySem.W PyProof.Rows
set_option Elab.async false
set_option autoImplicit false
set_option maxRecDepth 100000
namespace Mine
noncomputable def tabL : List Addr := [207, 150, 37, 30, 214]
noncomputable def hpL (P : Params) : Frag := (27, cd27) :: hpK P
noncomputable def asT : List Addr := [27, 3, 20, 21, 34, 35, 41, 42, 48, 49, 55, 56, 57, 58, 64, 65, 66, 67, 73, 74, 75, 76, 82, 83, 84, 85, 91, 92, 98, 99, 105, 106, 119, 120, 126, 127, 133, 134, 140, 141, 142, 143, 144, 145, 146, 154, 155, 159, 160, 164, 165, 169, 170, 176, 177, 183, 184, 190, 191, 197, 198, 204, 205, 211, 212, 216, 217]
theorem asT_eq (P : Params) : asT = (hpL P).map (·.1) := by kernel_rfl
noncomputable def qT : Program := view pw [1, 2, 3, 4, 5, 6, 7, 14, 15, 17, 19, 20, 21, 22, 23, 24, 25, 26, 27, 28, 29]
noncomputable def loT : List Str := ["insort_right", "bisect_right", "insort_left", "bisect_left"]
theorem left_ok : LeftO pw qT loT (fun _ => true) (kmHook hpL asT asT_eq tabL).obs (kmHook hpL asT asT_eq tabL).val 2500 := fun w => by kernel_rfl
end Mine

-- FILE TP
open PySem PySem.W PyProof.Rows
set_option Elab.async false
set_option autoImplicit false
set_option maxRecDepth 100000
namespace Mine
/-- a heap without the objects that may change -/
noncomputable def hide (hid : List Addr) (h : Heap) : Heap := { h with objs := h.objs.mapIdx fun i o => if hid.contains i then { o with data := .freed } else o }
theorem hide_get {hid : List Addr} {h : Heap} {a : Addr} : (hide hid h).get? a = if hid.contains a then none else h.get? a := by
  unfold hide Heap.get?
  dsimp only
  rw [Array.getElem?_mapIdx]
  cases hc : hid.contains a with
  | true =>
    cases h.objs[a]? with
    | none => rfl
    | some o => simp
  | false =>
    cases h.objs[a]? with
    | none => rfl
    | some o => simp
theorem hide_in {hid : List Addr} {h : Heap} {a : Addr} {x : Obj} (e : (hide hid h).get? a = some x) : h.get? a = some x := by
  rw [hide_get] at e
  split at e
  · cases e
  · exact e
theorem hide_out {hid : List Addr} {h : Heap} {a : Addr} {x : Obj} (e : h.get? a = some x) (n : hid.contains a = false) : (hide hid h).get? a = some x := by
  rw [hide_get, n]; exact e
theorem hide_ns {hid : List Addr} {h : Heap} {a : Addr} {m : Str → Option Value} (e : h.Ns a m) (n : hid.contains a = false) : (hide hid h).Ns a m := by
  obtain ⟨o, es, ep, e1, r⟩ := e
  exact ⟨o, es, ep, hide_out e1 n, r⟩
noncomputable def hidL : List Addr := 27 :: tabL
noncomputable def qnF (a : Addr) : Str := if a = 207 then "_law_end.<locals>.<lambda>" else if a = 150 then "_law_stream.<locals>.<lambda>" else if a = 37 then "_digits2int.<locals>.inner" else if a = 30 then "_int2digits.<locals>.inner" else "law.<locals>.<lambda>"
theorem hpK_out (P : Params) : ((hpK P).map (·.1)).all (fun a => !hidL.contains a) = true := by kernel_rfl
theorem code27 : CodeLike cd27 := ⟨rfl, _, _, _, rfl, rfl⟩
section
variable {w : World} {s₁ : Shared} {mg mb : Str → Option Value} {L : Addr} {ns : List Int} {vals : List Value}
noncomputable def wdOf (w : World) (h : Heap) : Wd := ⟨pw, w, ⟨hide hidL h, tabL, qnF⟩⟩
theorem look_mem {K : Frag} {a : Addr} {o : Obj} (h : K.lookup a = some o) : a ∈ K.map (·.1) := by
  induction K with
  | nil => cases h
  | cons p r ih =>
    obtain ⟨b, x⟩ := p
    rw [List.lookup_cons] at h
    split at h
    · rename_i e
      rw [eq_of_beq e]; exact .head _
    · exact .tail _ (ih h)
theorem in_hide {P : Params} {h : Heap} (K : (hpL P).In h) : (hpK P).In (hide hidL h) := fun a o e => by
  have hm := List.all_eq_true.mp (hpK_out P) a (look_mem e)
  have hm : hidL.contains a = false := by simpa using hm
  refine hide_out (K a o ?_) hm
  rw [hpL, List.lookup_cons]
  split
  · rename_i q
    have q := eq_of_beq q
    subst q
    exact absurd hm (by decide)
  · exact e
theorem hid_cls {P : Params} {h : Heap} (K : (hpL P).In h) (ht : ∀ t ∈ tabL, h.get? t = some (tabObj #[])) {a : Addr} (e : hidL.contains a = true) : ∃ x, h.get? a = some x ∧ (x.cls = .type "code" ∨ x.cls = .none) := by
  rcases List.mem_cons.mp (List.contains_iff_mem.mp e) with rfl | q
  · exact ⟨cd27, K 27 cd27 rfl, .inl rfl⟩
  · exact ⟨_, ht a q, .inr rfl⟩
theorem not_hid {P : Params} {h : Heap} (K : (hpL P).In h) (ht : ∀ t ∈ tabL, h.get? t = some (tabObj #[])) {a : Addr} {o : Obj} {c : String} (e : h.get? a = some o) (hc : o.cls = .type c) (hn : c ≠ "code") : hidL.contains a = false := by
  cases hh : hidL.contains a with
  | false => rfl
  | true =>
    obtain ⟨x, e2, e3⟩ := hid_cls K ht hh
    rw [e] at e2
    cases e2
    rw [hc] at e3
    rcases e3 with e3 | e3
    · injection e3 with e3
      exact absurd e3 hn
    · cases e3
theorem wo_of (K : (hpL w.params).In s₁.heap) (ht : ∀ t ∈ tabL, s₁.heap.get? t = some (tabObj #[])) (g : s₁.heap.Ns mainGlobals mg) (b : s₁.heap.Ns builtinsNs mb) (hb : ∀ x : Str, x ≠ "__name__" → mb x = bootBuiltins x) (nl : s₁.heap.NoLimit)
    (bm : ∃ bm ob, mg "__builtins__" = some (.ref bm) ∧ bm ≠ builtinsNs ∧ s₁.heap.get? bm = some ob ∧ ob.cls = .type "module" ∧ ob.dict = some builtinsNs ∧ ob.data = .plain) : Wo (wdOf w s₁.heap) w.params (glOf w.params) := by
  have hg : ∃ o es ep, s₁.heap.get? mainGlobals = some o ∧ o.data = .dict es ep ∧ StrKeys es ∧ ∀ x, nsFind es x = glOf w.params x ∧ mg x = glOf w.params x := by
    obtain ⟨o, es, ep, e1, e2, sk, f⟩ := g
    obtain ⟨o3, h3, es3, ep3, h4⟩ : ∃ o3, (hpK w.params).lookup 3 = some o3 ∧ ∃ es ep, o3.data = .dict es ep ∧ ∀ x, glOf w.params x = nsFind es x := ⟨_, rfl, _, _, rfl, fun _ => rfl⟩
    have k := K 3 o3 h3
    have e1' : s₁.heap.get? 3 = some o := e1
    rw [k] at e1'
    cases e1'
    rw [h4.1] at e2
    cases e2
    exact ⟨_, _, _, k, h4.1, sk, fun x => ⟨(h4.2 x).symm, (f x).symm.trans (h4.2 x).symm⟩⟩
  obtain ⟨o, es, ep, e1, e2, sk, f⟩ := hg
  refine ⟨⟨⟨o, es, ep, hide_out e1 (by decide), e2, sk, fun x => (f x).1⟩, ⟨mb, hide_ns b (by decide), hb⟩, ?_, ?_⟩, in_hide K, rfl, rfl, rfl, rfl, rfl, rfl⟩
  · obtain ⟨mc, e, q⟩ := nl
    exact ⟨mc, hide_ns e (by decide), q⟩
  · obtain ⟨bm, ob, b1, b2, b3, b4, b5, b6⟩ := bm
    exact ⟨bm, ob, (f _).2 ▸ b1, b2, hide_out b3 (not_hid K ht b3 b4 (by decide)), b4, b5, b6⟩
theorem hs_of (K : (hpL w.params).In s₁.heap) (ht : ∀ t ∈ tabL, s₁.heap.get? t = some (tabObj #[])) : HS (wdOf w s₁.heap).B [27] [.junk] s₁.heap :=
  by
  refine ⟨fun a x e => hide_in e, rfl, by decide, fun a ha => ?_, fun i a o h1 h2 => ?_, fun P hP => ?_⟩
  · have ha := List.mem_singleton.mp ha
    subst ha
    show (hide hidL s₁.heap).get? 27 = none
    rw [hide_get]; rfl
  · induction i using Nat.casesAuxOn with
    | zero => cases h1; cases h2; exact ⟨cd27, K 27 cd27 rfl, trivial, trivial⟩
    | succ i => cases h1
  · have hP : P ∈ tabL := hP
    refine ⟨fun q => ?_, ?_, #[], ht P hP, trivial, fun pos c e => nomatch e⟩
    · rw [List.mem_singleton.mp q] at hP
      exact absurd hP (by decide)
    · show (hide hidL s₁.heap).get? P = none
      exact hide_get.trans (if_pos (show hidL.contains P = true from List.contains_iff_mem.mpr (.tail _ hP)))
theorem script_of (K : (hpL w.params).In s₁.heap) (ht : ∀ t ∈ tabL, s₁.heap.get? t = some (tabObj #[])) (hL : s₁.heap.IsList L vals.toArray) (hI : IntsAre vals ns) : ScriptAt (wdOf w s₁.heap) L ns := by
  obtain ⟨o, e, hc, m, hd⟩ := hL
  refine ⟨o, _, m, hide_out e (not_hid K ht e hc (by decide)), hc, hd, ?_⟩
  rw [List.toList_toArray]
  clear hd
  induction hI with
  | nil => trivial
  | cons n t _ ih => exact ⟨⟨t, rfl⟩, ih⟩
theorem isTab {P : Params} {h : Heap} (K : (hpL P).In h) : ∀ t ∈ tabL, isCodeTable h t := by
  have key : ∀ {c t : Addr} {o : Obj}, (hpL P).lookup c = some o → o.cls = .type "code" → (∃ vs, o.data = .fields vs ∧ vs[11]? = some (.ref t)) → isCodeTable h t := fun e hc ⟨vs, hd, h11⟩ => ⟨_, _, vs, K _ _ e, hc, hd, h11⟩
  intro t ht
  simp only [tabL, List.mem_cons, List.not_mem_nil, or_false] at ht
  rcases ht with rfl | rfl | rfl | rfl | rfl
  · exact key (c := 211) rfl rfl ⟨_, rfl, rfl⟩
  · exact key (c := 154) rfl rfl ⟨_, rfl, rfl⟩
  · exact key (c := 41) rfl rfl ⟨_, rfl, rfl⟩
  · exact key (c := 34) rfl rfl ⟨_, rfl, rfl⟩
  · exact key (c := 216) rfl rfl ⟨_, rfl, rfl⟩
theorem old_of (K : (hpL w.params).In s₁.heap) (ht : ∀ t ∈ tabL, s₁.heap.get? t = some (tabObj #[])) {s' : Shared} {ρ' : Rho} {H' : List AO} (p : Post (wdOf w s₁.heap).B [27] s₁ s' ρ' H') : OldK s₁.heap s'.heap := by
  have tabs : ∀ t ∈ tabL, ∃ xs, s'.heap.get? t = some (tabObj xs) := fun t h => by
    obtain ⟨_, _, xs, e, _⟩ := p.hs.tabs t h
    exact ⟨xs, e⟩
  have key : ∀ b o, s₁.heap.get? b = some o → b ∉ tabL → s'.heap.get? b = some o := fun b o e hn => by
    by_cases h27 : b = 27
    · subst h27
      have e2 := K 27 cd27 rfl
      rw [e] at e2
      cases e2
      exact p.kc 27 cd27 code27 e
    · exact p.keep b o e (fun q => h27 (List.mem_singleton.mp q)) hn
  refine ⟨fun b o e => ?_, fun b o e => ?_⟩
  · by_cases hb : b ∈ tabL
    · obtain ⟨xs, ex⟩ := tabs b hb
      have e2 := ht b hb
      rw [e] at e2
      cases e2
      exact .inr (.inl ⟨isTab K b hb, rfl, #[], xs, rfl, by rw [ex]; simp⟩)
    · exact .inl (key b o e hb)
  · by_cases hb : b ∈ tabL
    · obtain ⟨xs, ex⟩ := tabs b hb
      exact ⟨_, ex⟩
    · exact ⟨o, key b o e hb⟩
theorem law_call (K : (hpL w.params).In s₁.heap) (ht : ∀ t ∈ tabL, s₁.heap.get? t = some (tabObj #[])) (g : s₁.heap.Ns mainGlobals mg) (b : s₁.heap.Ns builtinsNs mb) (hb : ∀ x : Str, x ≠ "__name__" → mb x = bootBuiltins x) (nl : s₁.heap.NoLimit)
    (bm : ∃ bm ob, mg "__builtins__" = some (.ref bm) ∧ bm ≠ builtinsNs ∧ s₁.heap.get? bm = some ob ∧ ob.cls = .type "module" ∧ ob.dict = some builtinsNs ∧ ob.data = .plain) (hL : s₁.heap.IsList L vals.toArray) (hI : IntsAre vals ns) (hu : ns.length ≤ 63) (hg : s₁.gens = #[]) :
    wpAny (model pw w) callerA (call (.ref 217) [.ref L]) (fun v s' => v = .bool true ∧ OldK s₁.heap s'.heap ∧ s'.os = s₁.os ∧ s'.gens = #[]) (fun _ _ => False) s₁ := by
  have W := wo_of K ht g b hb nl bm
  have k := law_true (n := 0) W (script_of K ht hL hI) hu [27] (.ref 217) [.ref L] [] rfl ⟨rfl, trivial⟩ trivial callerA s₁ ⟨rfl, by decide, by decide⟩ (hs_of K ht) hg
  refine wpAny_mono k (fun v s' ⟨ρ', H', p, z, hz, e⟩ => ?_) fun _ _ e => e
  subst e
  have hz : v = .bool true := hz
  exact ⟨hz, old_of K ht p, (Prod.mk.inj p.os).1, p.gens.trans hg⟩
end
end Mine

-- FILE TA
open PySem PySem.W PyProof.Rows
set_option Elab.async false
set_option autoImplicit false
set_option maxRecDepth 100000
namespace Mine
theorem args_of {w : World} {s₀ s₁ : Shared} {args : List WData} {vals : List Value} {as : List Addr} (hpre : PySem.Challenge.rw_uj0006_01.row.toRowW.claim.pre args = true) (hlay : WData.layableAll args = true)
    (hrd : ReadsAllW PySem.Challenge.rw_uj0006_01.row.toRowW.records (classAt s₀.heap) s₁.heap vals args as) (hwl : WellAll w.params s₁.heap vals args) (hlo : ∀ a ∈ as, (a == sysModules) = false) :
    ∃ L vs ns, vals = [.ref L] ∧ s₁.heap.IsList L vs.toArray ∧ IntsAre vs ns ∧ ns.length ≤ 63 := by
  w_on
  wrow_args hpre hlay hrd hwl hlo
  refine ⟨_, _, _, rfl, by assumption, by assumption, ?_⟩
  lia
theorem good_of {cl : Str → Option Addr} {mean : ExcName → Option Value} {args : List WData} {s₁ s' : Shared} {v : Value} (e : v = .bool true) (k : OldK s₁.heap s'.heap) (eo : s'.os = s₁.os) (eg : s'.gens = #[]) :
    GoodWG PySem.Challenge.rw_uj0006_01.row.toRowW.claim cl mean args s₁ (.ok (.ret v)) s' := by
  subst e
  exact ⟨.inl ⟨_, .bool true, [], rfl, fun _ => rfl, .bool true, by kernel_rfl, fun _ => ⟨List.nodup_nil, nofun⟩⟩, k, eo, .of_eq eg⟩
theorem law_at {P : Params} {h : Heap} {mg : Str → Option Value} {a : Addr} (K : (hpL P).In h) (g : h.Ns mainGlobals mg) (hmg : mg "law" = some (.ref a)) : a = 217 := by
  obtain ⟨o, es, ep, e1, e2, sk, f⟩ := g
  obtain ⟨o3, h3, es3, ep3, h4, h5⟩ : ∃ o3, (hpL P).lookup 3 = some o3 ∧ ∃ es ep, o3.data = .dict es ep ∧ nsFind es "law" = some (.ref 217) := ⟨_, rfl, _, _, rfl, by kernel_rfl⟩
  have k := K 3 o3 h3
  have e1' : h.get? 3 = some o := e1
  rw [k] at e1'
  cases e1'
  rw [h4] at e2
  cases e2
  have e := (f "law").trans hmg
  rw [h5] at e
  cases e
  rfl
end Mine
theorem PySem.Challenge.cw_uj0006_01_holds : PySem.Challenge.rw_uj0006_01.Holds := by
  w_on
  refine holds_law (by decide +kernel) fun said => ?_
  refine holds_open (q := Mine.qT) (loose := Mine.loT) (Xt := fun _ => true) (XP := fun _ _ => True) (N := 2500) Mine.left_ok (Hook.of _) (Hook.keeps _) (fun _ _ => trivial) (fun _ _ _ _ _ => trivial)
    (by rfl) (by rfl) (by rfl) (fun s _ => recFacts_of (by rfl)) (by rfl) said (by decide +kernel) ⟨rfl, rfl, rfl, rfl, rfl, by decide +kernel⟩ ?hw ?hc
  case hw => w_witness2
  intro w s₀ s₁ mg mb G Y fa o pm cd doc dV kV ho hd hcd hD hmg hg args vals as hpre hlay hrd hwl hlo
  clear hD hcd hd
  obtain ⟨L, vs, ns, rfl, hL, hI, hu⟩ := Mine.args_of hpre hlay hrd hwl hlo
  have T := G.T
  have ha : fa = 217 := Mine.law_at Y.1 T.g hmg
  subst ha
  refine wpAny_mono (Q := fun v s' => v = .bool true ∧ OldK s₁.heap s'.heap ∧ s'.os = s₁.os ∧ s'.gens = #[]) (E := fun _ _ => False) ?_ (fun v s' ⟨e, k, eo, eg⟩ => Mine.good_of e k eo eg) (fun _ _ h => h.elim)
  exact Mine.law_call Y.1 Y.2 T.g T.b T.builtins T.nolimit T.bmain hL hI hu hg
