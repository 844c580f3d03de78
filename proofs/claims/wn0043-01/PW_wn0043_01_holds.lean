import PyProof.Rows.All
import Wide.All
import OpenK.AllK
import Wide.FinOn
import Lean
import PySem.Challenge.RW_wn0043_01
open PySem PySem.W PyProof.Rows PySem.Calls
set_option Elab.async false
set_option maxRecDepth 100000
set_option linter.unusedVariables false
set_option linter.unusedSimpArgs false
set_option genSizeOf false

-- part Hd
set_option maxHeartbeats 8000000
namespace Mine
noncomputable section

abbrev pg : Program := PySem.Challenge.pw_wn0043_01
def fnParts : Stmt → Arguments × List Stmt × Scope
  | .FunctionDef _ ps b _ _ _ sc _ _ _ => (ps, b, sc)
  | _ => (⟨[], [], none, [], [], none, []⟩, [], { kind := .function, names := [], isGenerator := false, isCoroutine := false })
def stBody : Stmt → List Stmt
  | .ClassDef _ _ _ b _ _ _ _ _ _ _ => b
  | _ => []
def nth : List Stmt → Nat → Stmt
  | [], _ => .Pass ⟨0, 0, 0, 0⟩
  | a :: _, 0 => a
  | _ :: r, n + 1 => nth r n
def topFn (i : Nat) : Arguments × List Stmt × Scope := fnParts (nth pg.main.body i)
def clsFn (i j : Nat) : Arguments × List Stmt × Scope := fnParts (nth (stBody (nth pg.main.body i)) j)
def fnO (t : Arguments × List Stmt × Scope) (n q pm : Str) (k : Tok) (c : Addr) : Obj :=
  { cls := .type "function", data := .func { name := n, qualname := q, params := t.1, body := .stmts t.2.1, scope := t.2.2, globals := mainGlobals, closure := [], defaults := .none, kwdefaults := .none, pyModule := .str pm k, code := .ref c, builtins := builtinsNs } }
def cutPy : Str := Str.ofString "/claim/cut.py"
def codeO (n q : Str) (t : Tok) (line argc fl : Int) (a b : Addr) (c d : Value) (e : Addr) (u : Nat) : Obj :=
  { cls := .type "code", data := .fields #[.str n t, .str q (t + 1), .str cutPy (t + 2), .int line 0, .int argc 0, .int 0 0, .int 0 0, .int fl 0, .ref a, .bool true, .int 181 0, .ref b, .none, c, d, .ref e, .int u 0, .int line 0, .str cutPy (u + 1)] }
def ent (P : Params) (x : Str) (t : Tok) (v : Value) : DictEntry := { hash := PyData.keyHash P x, key := .str x t, val := v }
/-- the part of the heap behind the top that the law asks: the defs, their codes, the class, the names -/
def kfrag (P : Params) : Frag := [
  (3, { cls := .type "dict", data := .dict #[ent P "__name__" 165 (.str "law_wn0043_01" 282), ent P "__doc__" 166 (.none), ent P "__package__" 167 (.none), ent P "__loader__" 168 (.builtin "__main__.__loader__#opaque"), ent P "__spec__" 169 (.none), ent P "__annotations__" 170 (.ref 6), ent P "__builtins__" 171 (.ref 4), ent P "__file__" 173 (.str "/claim/cut.py" 172), ent P "__cached__" 174 (.none), ent P "_raise_serialization_error" 195 (.ref 21), ent P "_escape_cdata_c14n" 202 (.ref 28), ent P "_escape_attrib_c14n" 209 (.ref 35), ent P "Int2AP" 221 (.ref 42), ent P "_netrclex" 281 (.ref 80), ent P "_law_stream" 294 (.ref 91), ent P "_law_name" 300 (.ref 96), ent P "_law_number" 309 (.ref 103), ent P "_law_letters" 315 (.ref 108), ent P "_law_cells" 325 (.ref 115), ent P "_law_mark" 334 (.ref 122), ent P "_law_spelled" 340 (.ref 127), ent P "_law_tree" 352 (.ref 134), ent P "_law_page" 366 (.ref 141), ent P "_law_walk" 384 (.ref 148), ent P "_law_hops" 394 (.ref 155), ent P "_law_table" 400 (.ref 160), ent P "_law_minors" 406 (.ref 165), ent P "_law_as_text" 412 (.ref 170), ent P "_law_as_value" 418 (.ref 175), ent P "_law_due" 437 (.ref 182), ent P "law" 443 (.ref 187)] 31 }),
  (20, codeO "_raise_serialization_error" "_raise_serialization_error" 189 2 1 3 15 16 (.ref 17) (.ref 18) 19 193),
  (21, fnO (topFn 1) "_raise_serialization_error" "_raise_serialization_error" "cpy313.xml.etree.ElementTree" 187 20),
  (27, codeO "_escape_cdata_c14n" "_escape_cdata_c14n" 196 4 1 3 22 23 (.ref 24) (.ref 25) 26 200),
  (28, fnO (topFn 2) "_escape_cdata_c14n" "_escape_cdata_c14n" "cpy313.xml.etree.ElementTree" 187 27),
  (34, codeO "_escape_attrib_c14n" "_escape_attrib_c14n" 203 17 1 3 29 30 (.ref 31) (.ref 32) 33 207),
  (35, fnO (topFn 3) "_escape_attrib_c14n" "_escape_attrib_c14n" "cpy313.xml.etree.ElementTree" 187 34),
  (41, codeO "Int2AP" "Int2AP" 212 35 1 3 36 37 (.ref 38) (.ref 39) 40 219),
  (42, fnO (topFn 5) "Int2AP" "Int2AP" "cpy313.imaplib" 210 41),
  (55, codeO "__init__" "_netrclex.__init__" 236 46 2 3 50 51 (.ref 52) (.ref 53) 54 241),
  (56, fnO (clsFn 7 0) "__init__" "_netrclex.__init__" "cpy313.netrc" 222 55),
  (62, codeO "_read_char" "_netrclex._read_char" 244 52 1 3 57 58 (.ref 59) (.ref 60) 61 249),
  (63, fnO (clsFn 7 1) "_read_char" "_netrclex._read_char" "cpy313.netrc" 222 62),
  (69, codeO "get_token" "_netrclex.get_token" 252 58 1 3 64 65 (.ref 66) (.ref 67) 68 259),
  (70, fnO (clsFn 7 2) "get_token" "_netrclex.get_token" "cpy313.netrc" 222 69),
  (76, codeO "push_token" "_netrclex.push_token" 262 85 2 3 71 72 (.ref 73) (.ref 74) 75 267),
  (77, fnO (clsFn 7 3) "push_token" "_netrclex.push_token" "cpy313.netrc" 222 76),
  (78, { cls := .type "tuple", data := .seq #[.str "instream" 270, .str "lineno" 271, .str "pushback" 272, .str "whitespace" 273] }),
  (79, { cls := .type "dict", data := .dict #[ent P "__module__" 231 (.str "cpy313.netrc" 222), ent P "__firstlineno__" 235 (.int 44 234), ent P "__init__" 243 (.ref 56), ent P "_read_char" 251 (.ref 63), ent P "get_token" 261 (.ref 70), ent P "push_token" 269 (.ref 77), ent P "__static_attributes__" 274 (.ref 78), ent P "__dict__" 276 (.ref 81), ent P "__weakref__" 278 (.ref 82), ent P "__doc__" 279 (.none)] 4 }),
  (80, { cls := .type "type", data := .cls { name := "_netrclex", bases := [.type "object"], mro := [.ref 80, .type "object"], ns := 79, qualname := "_netrclex" }, slots := #[none, none, some (.str "_netrclex" 224), some (.str "_netrclex" 232), some (.builtin "object.__new__"), some (.bool true)] }),
  (81, { cls := .type "getset_descriptor", data := .fields #[.str "__dict__" 275, .ref 80, .builtin "function.__dict__", .builtin "function.__dict__#set"] }),
  (82, { cls := .type "getset_descriptor", data := .fields #[.str "__weakref__" 277, .ref 80, .builtin "ExceptionGroup.__weakref__", .none] }),
  (90, codeO "_law_stream" "_law_stream" 284 88 1 3 85 86 (.ref 87) (.ref 88) 89 292),
  (91, fnO (topFn 9) "_law_stream" "_law_stream" "law_wn0043_01" 282 90),
  (95, codeO "_law_name" "_law_name" 295 98 1 3 92 93 .none .none 94 298),
  (96, fnO (topFn 10) "_law_name" "_law_name" "law_wn0043_01" 282 95),
  (102, codeO "_law_number" "_law_number" 301 100 1 3 97 98 (.ref 99) (.ref 100) 101 307),
  (103, fnO (topFn 11) "_law_number" "_law_number" "law_wn0043_01" 282 102),
  (107, codeO "_law_letters" "_law_letters" 310 105 1 3 104 105 .none .none 106 313),
  (108, fnO (topFn 12) "_law_letters" "_law_letters" "law_wn0043_01" 282 107),
  (114, codeO "_law_cells" "_law_cells" 316 110 1 3 109 110 (.ref 111) (.ref 112) 113 323),
  (115, fnO (topFn 13) "_law_cells" "_law_cells" "law_wn0043_01" 282 114),
  (121, codeO "_law_mark" "_law_mark" 326 115 1 3 116 117 (.ref 118) (.ref 119) 120 332),
  (122, fnO (topFn 14) "_law_mark" "_law_mark" "law_wn0043_01" 282 121),
  (126, codeO "_law_spelled" "_law_spelled" 335 119 2 3 123 124 .none .none 125 338),
  (127, fnO (topFn 15) "_law_spelled" "_law_spelled" "law_wn0043_01" 282 126),
  (133, codeO "_law_tree" "_law_tree" 341 125 1 3 128 129 (.ref 130) (.ref 131) 132 350),
  (134, fnO (topFn 16) "_law_tree" "_law_tree" "law_wn0043_01" 282 133),
  (140, codeO "_law_page" "_law_page" 353 133 2 3 135 136 (.ref 137) (.ref 138) 139 364),
  (141, fnO (topFn 17) "_law_page" "_law_page" "law_wn0043_01" 282 140),
  (147, codeO "_law_walk" "_law_walk" 367 140 3 3 142 143 (.ref 144) (.ref 145) 146 382),
  (148, fnO (topFn 18) "_law_walk" "_law_walk" "law_wn0043_01" 282 147),
  (154, codeO "_law_hops" "_law_hops" 385 158 3 3 149 150 (.ref 151) (.ref 152) 153 392),
  (155, fnO (topFn 19) "_law_hops" "_law_hops" "law_wn0043_01" 282 154),
  (159, codeO "_law_table" "_law_table" 395 167 3 3 156 157 .none .none 158 398),
  (160, fnO (topFn 20) "_law_table" "_law_table" "law_wn0043_01" 282 159),
  (164, codeO "_law_minors" "_law_minors" 401 182 1 3 161 162 .none .none 163 404),
  (165, fnO (topFn 21) "_law_minors" "_law_minors" "law_wn0043_01" 282 164),
  (169, codeO "_law_as_text" "_law_as_text" 407 196 1 3 166 167 .none .none 168 410),
  (170, fnO (topFn 22) "_law_as_text" "_law_as_text" "law_wn0043_01" 282 169),
  (174, codeO "_law_as_value" "_law_as_value" 413 199 1 3 171 172 .none .none 173 416),
  (175, fnO (topFn 23) "_law_as_value" "_law_as_value" "law_wn0043_01" 282 174),
  (181, codeO "_law_due" "_law_due" 419 202 2 3 176 177 (.ref 178) (.ref 179) 180 435),
  (182, fnO (topFn 24) "_law_due" "_law_due" "law_wn0043_01" 282 181),
  (186, codeO "law" "law" 438 216 1 3 183 184 .none .none 185 441),
  (187, fnO (topFn 25) "law" "law" "law_wn0043_01" 282 186)]
def kaddrs : List Addr := [3, 20, 21, 27, 28, 34, 35, 41, 42, 55, 56, 62, 63, 69, 70, 76, 77, 78, 79, 80, 81, 82, 90, 91, 95, 96, 102, 103, 107, 108, 114, 115, 121, 122, 126, 127, 133, 134, 140, 141, 147, 148, 154, 155, 159, 160, 164, 165, 169, 170, 174, 175, 181, 182, 186, 187]

/-- the program's view: the statements that bind a name for good -/
def vw : Program := view pg [1, 2, 3, 5, 7, 9, 10, 11, 12, 13, 14, 15, 16, 17, 18, 19, 20, 21, 22, 23, 24, 25]
def rowW : RowW := PySem.Challenge.rw_wn0043_01.row.toRowW
def hk : Hook := kmHook kfrag kaddrs (fun _ => by kernel_rfl) [86]
def lawDK : DefRec × List (Str × PySem.Expr) := (defOf vw "law").getD (⟨"", ⟨[], [], none, [], [], none, []⟩, [], { kind := .function, names := [], isGenerator := false, isCoroutine := false }, ⟨0, 0, 0, 0⟩⟩, [])

theorem said : OpenLaw.wellSaid PySem.Challenge.rw_wn0043_01 = true := by kernel_rfl
theorem ran : LeftO pg vw [] (fun s => xlAt vw [] s && recOk (RowW.records rowW) s) hk.obs hk.val 2118 := fun w => by kernel_rfl
theorem lawDef : defOf vw "law" = some (lawDK.1, lawDK.2) := by kernel_rfl

theorem hd (walk : WalkO vw [] (XL vw []) hk.says rowW lawDK.1 lawDK.2 fun f vs => PySem.call f vs) : PySem.Challenge.rw_wn0043_01.Holds := by
  w_on
  refine holds_law said fun said => ?_
  refine holds_open (r := PySem.Challenge.rw_wn0043_01.row) (q := vw) (loose := []) (Xt := fun s => xlAt vw [] s && recOk (RowW.records rowW) s) (XP := XL vw []) (Yf := hk.obs) (Ya := hk.val) (YP := hk.says) (d := lawDK.1) (kwd := lawDK.2) (N := 2118) ran hk.of hk.keeps
    (fun s e => xl_of s (Bool.and_eq_true_iff.mp e).1) XL.keeps lawDef (by kernel_rfl) (by kernel_rfl) (fun s e => recFacts_of (Bool.and_eq_true_iff.mp e).2) (by kernel_rfl) said (by kernel_rfl) ⟨rfl, rfl, rfl, rfl, rfl, by decide +kernel⟩ ?hw walk
  case hw => w_witness2
end
end Mine

-- part L0
namespace Mine
noncomputable section

noncomputable abbrev KF (w : World) : Frag := kfrag w.params

theorem keeps_refl (s : Shared) : Keeps s s := ⟨s.heap, s.toks, rfl, fun _ _ e => e⟩
theorem keeps_tok (s : Shared) (k : Nat) : Keeps s { s with toks := k } := ⟨s.heap, k, rfl, fun _ _ e => e⟩
theorem keeps_push (s : Shared) (o : Obj) (k : Nat) : Keeps s { s with heap := s.heap.push o, toks := k } := ⟨_, k, rfl, fun _ _ e => Heap.get?_push_of_some _ e⟩
theorem keeps_tr {s s₁ s₂ : Shared} (a : Keeps s s₁) (b : Keeps s₁ s₂) : Keeps s s₂ := by
  obtain ⟨h, k, rfl, x⟩ := a
  obtain ⟨h', k', rfl, y⟩ := b
  exact ⟨h', k', rfl, fun b o e => y b o (x b o e)⟩
theorem keeps_get {s s' : Shared} (a : Keeps s s') {b : Addr} {o : Obj} (e : s.heap.get? b = some o) : s'.heap.get? b = some o := by
  obtain ⟨h, k, rfl, x⟩ := a; exact x b o e

structure GI (w : World) (h : Heap) : Prop where
  K : (KF w).In h
  top : ∃ mg mb, h.Ns mainGlobals mg ∧ h.Ns builtinsNs mb ∧ h.NoLimit ∧ ∀ x : Str, x ≠ "__name__" → mb x = bootBuiltins x
theorem GI.keeps {w : World} {h h' : Heap} (g : GI w h) (k : ∀ b o, h.get? b = some o → h'.get? b = some o) : GI w h' :=
  ⟨g.K.keeps k, let ⟨mg, mb, a, b, c, d⟩ := g.top; ⟨mg, mb, a.keeps k, b.keeps k, c.keeps k, d⟩⟩
theorem GI.nolimit {w : World} {h : Heap} (g : GI w h) : h.NoLimit := let ⟨_, _, _, _, c, _⟩ := g.top; c

structure Ok (A : Around) (d u : Nat) : Prop where
  depth : A.depth + d < 600
  units : A.units + u < 9000
  handled : A.handled = none
theorem Ok.le {A : Around} {d u d' u' : Nat} (k : Ok A d u) (hd : d' ≤ d) (hu : u' ≤ u) : Ok A d' u' :=
  ⟨by have := k.depth; omega, by have := k.units; omega, k.handled⟩
theorem Ok.deeper {A : Around} {d u : Nat} (k : Ok A (d + 1) (u + 3)) (env : Env) : Ok (A.deeper env) d u :=
  ⟨by have := k.depth; show A.depth + 1 + d < 600; omega, by have := k.units; show A.units + 3 + u < 9000; omega, k.handled⟩
theorem Ok.room {A : Around} {d u : Nat} (k : Ok A d u) : A.depth < recursionLimit := by have := k.depth; show A.depth < 1000; omega

abbrev OP := Obj → Prop
abbrev Ld := List (Addr × OP)

/-- where an expression stands -/
structure Cx where
  w : World
  A : Around
  env : Env
  h₀ : Heap
  s₀ : Shared

structure Cx.St (C : Cx) (m : Str → Option Value) (nw : Ld) (s : Shared) : Prop where
  same : ∃ h tk, s = { C.s₀ with heap := h, toks := tk }
  fr : Fr C.h₀ C.env.locals s.heap m
  led : ∀ p ∈ nw, (∃ o, s.heap.get? p.1 = some o ∧ p.2 o) ∧ p.1 ≠ C.env.locals ∧ C.h₀.get? p.1 = none
  nd : (nw.map (·.1)).Nodup
  tk : 0 < s.toks

structure Cx.Good (C : Cx) (d u : Nat) : Prop where
  gi : GI C.w C.h₀
  ok : Ok C.A d u
  kind : C.env.scope.kind = .function
  glob : C.env.globals = mainGlobals
  bi : C.env.builtins = builtinsNs

def Fresh (h h' : Heap) (ext : Ld) : Prop := (∀ p ∈ ext, h.get? p.1 = none ∧ ∃ o, h'.get? p.1 = some o ∧ p.2 o) ∧ (ext.map (·.1)).Nodup
theorem Fresh.nil {h h' : Heap} : Fresh h h' [] := ⟨fun _ e => (nomatch e), List.nodup_nil⟩
theorem Fresh.up {h h' h'' : Heap} {ext : Ld} (f : Fresh h h' ext) (k : ∀ b o, h'.get? b = some o → h''.get? b = some o) : Fresh h h'' ext :=
  ⟨fun p hp => let ⟨a, o, b, c⟩ := f.1 p hp; ⟨a, o, k _ _ b, c⟩, f.2⟩
theorem none_of {h h' : Heap} (k : ∀ b o, h.get? b = some o → h'.get? b = some o) {a : Addr} (e : h'.get? a = none) : h.get? a = none := by
  cases q : h.get? a with
  | none => rfl
  | some o => rw [k _ _ q] at e; cases e
theorem Fresh.down {h h' h'' : Heap} {ext : Ld} (f : Fresh h' h'' ext) (k : ∀ b o, h.get? b = some o → h'.get? b = some o) : Fresh h h'' ext :=
  ⟨fun p hp => ⟨none_of k (f.1 p hp).1, (f.1 p hp).2⟩, f.2⟩
theorem nodup_app {α : Type} {l l' : List α} (a : l.Nodup) (b : l'.Nodup) (d : ∀ x ∈ l, x ∉ l') : (l ++ l').Nodup :=
  List.nodup_append.mpr ⟨a, b, fun x hx y hy e => d x hx (e ▸ hy)⟩
theorem Fresh.app {h h' h'' : Heap} {e₁ e₂ : Ld} (f : Fresh h h' e₁) (g : Fresh h' h'' e₂) (k : ∀ b o, h.get? b = some o → h'.get? b = some o) (k' : ∀ b o, h'.get? b = some o → h''.get? b = some o) : Fresh h h'' (e₂ ++ e₁) := by
  refine ⟨fun p hp => ?_, ?_⟩
  · rcases List.mem_append.mp hp with hp | hp
    · exact (g.down k).1 p hp
    · exact (f.up k').1 p hp
  · rw [List.map_append]
    refine nodup_app g.2 f.2 fun x hx hy => ?_
    obtain ⟨p, hp, rfl⟩ := List.mem_map.mp hx
    obtain ⟨q, hq, e⟩ := List.mem_map.mp hy
    obtain ⟨_, o, ho, _⟩ := f.1 q hq
    have := (g.1 p hp).1
    rw [← e, ho] at this; cases this
theorem keepsH {s s' : Shared} (a : Keeps s s') : ∀ b o, s.heap.get? b = some o → s'.heap.get? b = some o := fun _ _ e => keeps_get a e

theorem fr_keeps {h₀ h h' : Heap} {L : Addr} {m : Str → Option Value} (F : Fr h₀ L h m) (k : ∀ b o, h.get? b = some o → h'.get? b = some o) : Fr h₀ L h' m :=
  ⟨F.ns.keeps k, fun b o e => k _ _ (F.keep b o e), F.above⟩
section
variable {C : Cx} {m : Str → Option Value} {nw : Ld} {s s' : Shared}
theorem Cx.St.keeps (S : C.St m nw s) (k : Keeps s s') (ht : s.toks ≤ s'.toks) : C.St m nw s' := by
  obtain ⟨h, t, rfl, x⟩ := k
  obtain ⟨h', t', e⟩ := S.same
  subst e
  exact ⟨⟨h, t, rfl⟩, fr_keeps S.fr x, fun p hp => let ⟨⟨o, a, b⟩, c⟩ := S.led p hp; ⟨⟨o, x _ _ a, b⟩, c⟩, S.nd, Nat.lt_of_lt_of_le S.tk ht⟩
theorem Cx.St.ext {ext : Ld} (S : C.St m nw s) (k : Keeps s s') (f : Fresh s.heap s'.heap ext) (ht : s.toks ≤ s'.toks) : C.St m (ext ++ nw) s' := by
  have S' := S.keeps k ht
  refine ⟨S'.same, S'.fr, fun p hp => ?_, ?_, S'.tk⟩
  · rcases List.mem_append.mp hp with hp | hp
    · obtain ⟨a, b⟩ := f.1 p hp
      refine ⟨b, fun e => ?_, none_of S.fr.keep a⟩
      obtain ⟨o, _, _, ho, _⟩ := S.fr.ns
      rw [e, ho] at a; cases a
    · exact S'.led p hp
  · rw [List.map_append]
    refine nodup_app f.2 S.nd fun x hx hy => ?_
    obtain ⟨p, hp, rfl⟩ := List.mem_map.mp hx
    obtain ⟨q, hq, e⟩ := List.mem_map.mp hy
    obtain ⟨⟨o, ho, _⟩, _⟩ := S.led q hq
    have := (f.1 p hp).1
    rw [← e, ho] at this; cases this
theorem Cx.St.sub {nw' : Ld} (S : C.St m nw s) (hs : ∀ p ∈ nw', p ∈ nw) (hn : (nw'.map (·.1)).Nodup) : C.St m nw' s :=
  ⟨S.same, S.fr, fun p hp => S.led p (hs p hp), hn, S.tk⟩
theorem Cx.St.subl {nw' : Ld} (S : C.St m nw s) (hs : nw'.Sublist nw) : C.St m nw' s :=
  S.sub (fun _ hp => hs.subset hp) (S.nd.sublist (hs.map _))
theorem Cx.St.perm {nw' : Ld} (S : C.St m nw s) (hs : nw.Perm nw') : C.St m nw' s :=
  S.sub (fun _ hp => hs.mem_iff.mpr hp) ((hs.map _).nodup_iff.mp S.nd)
theorem Cx.St.gi (S : C.St m nw s) {d u : Nat} (G : C.Good d u) : GI C.w s.heap := G.gi.keeps S.fr.keep
theorem Cx.St.at (S : C.St m nw s) {a : Addr} {O : OP} (h : (a, O) ∈ nw) : ∃ o, s.heap.get? a = some o ∧ O o := (S.led _ h).1
end

/-- an object of the ledger is another one now -/
inductive Ch (a : Addr) (O O' : OP) : Ld → Ld → Prop
  | head {r} : Ch a O O' ((a, O) :: r) ((a, O') :: r)
  | tail {p r r'} : Ch a O O' r r' → Ch a O O' (p :: r) (p :: r')
theorem Ch.keys {a : Addr} {O O' : OP} : ∀ {l l' : Ld}, Ch a O O' l l' → l'.map (·.1) = l.map (·.1)
  | _, _, .head => rfl
  | _, _, .tail r => by rw [List.map_cons, List.map_cons, r.keys]
theorem Ch.mem {a : Addr} {O O' : OP} : ∀ {l l' : Ld}, Ch a O O' l l' → (a, O) ∈ l
  | _, _, .head => .head _
  | _, _, .tail r => .tail _ r.mem
theorem Ch.of {a : Addr} {O O' : OP} : ∀ {l l' : Ld}, Ch a O O' l l' → (l.map (·.1)).Nodup → ∀ p ∈ l', p = (a, O') ∨ (p ∈ l ∧ p.1 ≠ a)
  | _, _, .head, nd, p, hp => by
    rcases List.mem_cons.mp hp with rfl | hp
    · exact .inl rfl
    · refine .inr ⟨.tail _ hp, fun e => ?_⟩
      rw [List.map_cons, List.nodup_cons] at nd
      exact nd.1 (by rw [← e]; exact List.mem_map_of_mem (f := (·.1)) hp)
  | _, _, .tail (p := q) r, nd, p, hp => by
    rw [List.map_cons, List.nodup_cons] at nd
    rcases List.mem_cons.mp hp with rfl | hp
    · exact .inr ⟨.head _, fun e => nd.1 (by rw [e]; exact List.mem_map_of_mem (f := (·.1)) r.mem)⟩
    · exact (r.of nd.2 p hp).imp id fun h => ⟨.tail _ h.1, h.2⟩
theorem Cx.St.ch {C : Cx} {m : Str → Option Value} {nw nw' : Ld} {s : Shared} {a : Addr} {O O' : OP} {h' : Heap} {k : Nat} {o' : Obj} (S : C.St m nw s) (c : Ch a O O' nw nw') (hs : Heap.SameBut a s.heap h') (ho : h'.get? a = some o') (hO : O' o') (hk : s.toks ≤ k) : C.St m nw' { s with heap := h', toks := k } := by
  obtain ⟨_, hL, h0⟩ := S.led _ c.mem
  have hL : a ≠ C.env.locals := hL
  have h0 : C.h₀.get? a = none := h0
  refine ⟨let ⟨_, _, e⟩ := S.same; ⟨h', k, by rw [e]⟩, ⟨S.fr.ns.sameBut hs (Ne.symm hL), fun b o e => (hs.2 b fun q => by rw [q, h0] at e; cases e).trans (S.fr.keep b o e), S.fr.above⟩, fun p hp => ?_, by rw [c.keys]; exact S.nd, Nat.lt_of_lt_of_le S.tk hk⟩
  rcases c.of S.nd p hp with rfl | ⟨hp, hne⟩
  · exact ⟨⟨o', ho, hO⟩, hL, h0⟩
  · obtain ⟨⟨o, e, q⟩, r⟩ := S.led p hp
    exact ⟨⟨o, (hs.2 _ hne).trans e, q⟩, r⟩

abbrev VP := Value → Prop
abbrev vI (i : Int) : VP := fun v => ∃ t, v = .int i t
abbrev vS (x : Str) : VP := fun v => ∃ t, v = .str x t
abbrev vB (x : Array UInt8) : VP := fun v => ∃ t, v = .bytes x t
abbrev vT (b : Bool) : VP := fun v => v = .bool b
abbrev vIs (x : Value) : VP := fun v => v = x
abbrev FP := Value → Ld → Prop
abbrev pv (P : VP) : FP := fun v ext => P v ∧ ext = []
abbrev pn (O : OP) : FP := fun v ext => ∃ a, v = .ref a ∧ ext = [(a, O)]

structure PX (C : Cx) (m : Str → Option Value) (nw : Ld) (e : Expr) (F : FP) : Prop where
  run : ∀ s E, C.St m nw s → wpAny (model pg C.w) C.A (eval e C.env) (fun v s' => Keeps s s' ∧ ∃ ext, F v ext ∧ Fresh s.heap s'.heap ext) E s
abbrev PE (C : Cx) (m : Str → Option Value) (nw : Ld) (e : Expr) (P : VP) : Prop := PX C m nw e (pv P)
abbrev PN (C : Cx) (m : Str → Option Value) (nw : Ld) (e : Expr) (O : OP) : Prop := PX C m nw e (pn O)

/-- a tree that makes a value and changes nothing -/
def TX (C : Cx) (t : Sem Value) (F : FP) (s : Shared) : Prop :=
  ∀ E, wpAny (model pg C.w) C.A t (fun v s' => Keeps s s' ∧ ∃ ext, F v ext ∧ Fresh s.heap s'.heap ext) E s

section
variable {C : Cx} {m : Str → Option Value} {nw : Ld}

theorem PX.mono {e : Expr} {F F' : FP} (h : PX C m nw e F) (hp : ∀ v x, F v x → F' v x) : PX C m nw e F' :=
  PX.mk fun s E S => wpAny_mono (h.run s E S) (fun _ _ ⟨a, x, b, c⟩ => ⟨a, x, hp _ _ b, c⟩) fun _ _ x => x
theorem PE.imp {e : Expr} {P P' : VP} (h : PE C m nw e P) (hp : ∀ v, P v → P' v) : PE C m nw e P' := PX.mono h fun _ _ x => ⟨hp _ x.1, x.2⟩

theorem pvI {s : Shared} {v : Value} {P : VP} (h : P v) : ∃ ext, pv P v ext ∧ Fresh s.heap s.heap ext := ⟨[], ⟨h, rfl⟩, Fresh.nil⟩
theorem PE.kI {i : Int} {k : Nat} {p : Pos} : PE C m nw (.Constant (.int i) k p) (vI i) :=
  PX.mk fun s _ _ => wpAny_Constant_int ⟨keeps_tok s _, [], ⟨⟨_, rfl⟩, rfl⟩, Fresh.nil⟩
theorem PE.kS {x : Str} {k : Nat} {p : Pos} : PE C m nw (.Constant (.str x) k p) (vS x) :=
  PX.mk fun s _ _ => wpAny_Constant_str ⟨keeps_tok s _, [], ⟨⟨_, rfl⟩, rfl⟩, Fresh.nil⟩
theorem PE.kB {x : List UInt8} {k : Nat} {p : Pos} : PE C m nw (.Constant (.bytes x) k p) (vB x.toArray) :=
  PX.mk fun s _ _ => wpAny_mkTextBytes ⟨keeps_tok s _, [], ⟨⟨_, rfl⟩, rfl⟩, Fresh.nil⟩
theorem PE.kN {k : Nat} {p : Pos} : PE C m nw (.Constant .none k p) (vIs .none) :=
  PX.mk fun s _ _ => wpAny_Constant_none ⟨keeps_refl s, [], ⟨rfl, rfl⟩, Fresh.nil⟩
theorem PE.kT {b : Bool} {k : Nat} {p : Pos} : PE C m nw (.Constant (.bool b) k p) (vT b) :=
  PX.mk fun s _ _ => wpAny_Constant_bool ⟨keeps_refl s, [], ⟨rfl, rfl⟩, Fresh.nil⟩
theorem PE.loc {x : Str} {p : Pos} {v : Value} (hv : m x = some v) (hk : C.env.scope.kind = .function := by first | kernel_rfl | rfl) (hl : C.env.kindOf x = some .local := by first | kernel_rfl | rfl)
    (hd : (x == ("__debug__" : Str)) = false := by decide +kernel) : PE C m nw (.Name x p) (vIs v) :=
  PX.mk fun s _ S => wpAny_Name (wpAny_loadName_local hk hl S.fr.ns hv ⟨keeps_refl s, [], ⟨rfl, rfl⟩, Fresh.nil⟩) hd
theorem PE.locI {x : Str} {p : Pos} {i : Int} {t : Tok} (hv : m x = some (.int i t)) (hk : C.env.scope.kind = .function := by first | kernel_rfl | rfl) (hl : C.env.kindOf x = some .local := by first | kernel_rfl | rfl)
    (hd : (x == ("__debug__" : Str)) = false := by decide +kernel) : PE C m nw (.Name x p) (vI i) :=
  (PE.loc hv hk hl hd).imp fun _ e => ⟨_, e⟩
theorem PE.locS {x y : Str} {p : Pos} {t : Tok} (hv : m x = some (.str y t)) (hk : C.env.scope.kind = .function := by first | kernel_rfl | rfl) (hl : C.env.kindOf x = some .local := by first | kernel_rfl | rfl)
    (hd : (x == ("__debug__" : Str)) = false := by decide +kernel) : PE C m nw (.Name x p) (vS y) :=
  (PE.loc hv hk hl hd).imp fun _ e => ⟨_, e⟩

theorem PX.go {e : Expr} {F : FP} {s : Shared} {E : Value → Shared → Prop} {Q : Value → Shared → Prop} (h : PX C m nw e F) (S : C.St m nw s)
    (hq : ∀ v s' ext, Keeps s s' → C.St m nw s' → C.St m (ext ++ nw) s' → F v ext → Fresh s.heap s'.heap ext → Q v s') : wpAny (model pg C.w) C.A (eval e C.env) Q E s :=
  wpAny_mono (wpAny_toks (h.run s E S)) (fun v s' z => let ⟨ht, k, ext, f, fr⟩ := z; hq v s' ext k (S.keeps k ht) (S.ext k fr ht) f fr) fun _ _ z => z.2
theorem PE.go {e : Expr} {P : VP} {s : Shared} {E : Value → Shared → Prop} {Q : Value → Shared → Prop} (h : PE C m nw e P) (S : C.St m nw s)
    (hq : ∀ v s', Keeps s s' → C.St m nw s' → P v → Q v s') : wpAny (model pg C.w) C.A (eval e C.env) Q E s :=
  PX.go h S fun v s' _ k S' _ p _ => hq v s' k S' p.1

/-- two parts, each a value that bears nothing new; then a tree -/
theorem two {a b : Expr} {Pa Pb : VP} {F : FP} {T : Value → Value → Sem Value} {s : Shared} {E : Value → Shared → Prop} (S : C.St m nw s) (ha : PE C m nw a Pa) (hb : PE C m nw b Pb)
    (h : ∀ s₂ v v', C.St m nw s₂ → Pa v → Pb v' → TX C (T v v') F s₂) :
    wpAny (model pg C.w) C.A (eval a C.env) (fun v s₁ => wpAny (model pg C.w) C.A (eval b C.env) (fun v' s₂ => wpAny (model pg C.w) C.A (T v v') (fun v s' => Keeps s s' ∧ ∃ ext, F v ext ∧ Fresh s.heap s'.heap ext) E s₂) E s₁) E s := by
  refine ha.go S fun v s₁ k₁ S₁ p₁ => hb.go S₁ fun v' s₂ k₂ S₂ p₂ => ?_
  refine wpAny_mono (h s₂ v v' S₂ p₁ p₂ E) (fun r s₃ x => ?_) fun _ _ x => x
  obtain ⟨k₃, ext, f, fr⟩ := x
  exact ⟨keeps_tr k₁ (keeps_tr k₂ k₃), ext, f, fr.down (keepsH (keeps_tr k₁ k₂))⟩
theorem one {a : Expr} {Pa : VP} {F : FP} {T : Value → Sem Value} {s : Shared} {E : Value → Shared → Prop} (S : C.St m nw s) (ha : PE C m nw a Pa)
    (h : ∀ s₂ v, C.St m nw s₂ → Pa v → TX C (T v) F s₂) :
    wpAny (model pg C.w) C.A (eval a C.env) (fun v s₁ => wpAny (model pg C.w) C.A (T v) (fun v s' => Keeps s s' ∧ ∃ ext, F v ext ∧ Fresh s.heap s'.heap ext) E s₁) E s := by
  refine ha.go S fun v s₁ k₁ S₁ p₁ => ?_
  refine wpAny_mono (h s₁ v S₁ p₁ E) (fun r s₃ x => ?_) fun _ _ x => x
  obtain ⟨k₃, ext, f, fr⟩ := x
  exact ⟨keeps_tr k₁ k₃, ext, f, fr.down (keepsH k₁)⟩
theorem TX.tok {t : Sem Value} {P : VP} {s : Shared} (h : ∀ E (Q : Value → Shared → Prop), (∀ v k, P v → Q v { s with toks := k }) → wpAny (model pg C.w) C.A t Q E s) : TX C t (pv P) s :=
  fun E => h E _ fun v k p => ⟨keeps_tok s k, [], ⟨p, rfl⟩, Fresh.nil⟩

theorem PX.bin {op : Operator} {a b : Expr} {p : Pos} {Pa Pb : VP} {F : FP} (ha : PE C m nw a Pa) (hb : PE C m nw b Pb)
    (h : ∀ s v v', C.St m nw s → Pa v → Pb v' → TX C (binaryOp op v v') F s) : PX C m nw (.BinOp a op b p) F :=
  PX.mk fun _ _ S => wpAny_BinOp (two S ha hb h)
theorem PE.add {a b : Expr} {p : Pos} {x y : Int} (ha : PE C m nw a (vI x)) (hb : PE C m nw b (vI y)) : PE C m nw (.BinOp a .Add b p) (vI (x + y)) :=
  PX.bin ha hb fun s _ _ _ ⟨_, e⟩ ⟨_, e'⟩ => TX.tok fun E Q h => by subst e e'; exact PyProof.Rows.add_int (h _ _ ⟨_, rfl⟩)
theorem PE.sub {a b : Expr} {p : Pos} {x y : Int} (ha : PE C m nw a (vI x)) (hb : PE C m nw b (vI y)) : PE C m nw (.BinOp a .Sub b p) (vI (x - y)) :=
  PX.bin ha hb fun s _ _ _ ⟨_, e⟩ ⟨_, e'⟩ => TX.tok fun E Q h => by subst e e'; exact PyProof.Rows.sub_int (h _ _ ⟨_, rfl⟩)
theorem PE.mul {a b : Expr} {p : Pos} {x y : Int} (ha : PE C m nw a (vI x)) (hb : PE C m nw b (vI y)) (hm : IntMulOk x y) : PE C m nw (.BinOp a .Mult b p) (vI (x * y)) :=
  PX.bin ha hb fun s _ _ _ ⟨_, e⟩ ⟨_, e'⟩ => TX.tok fun E Q h => by subst e e'; exact PyProof.Rows.mul_int (h _ _ ⟨_, rfl⟩) hm
theorem PE.mod {a b : Expr} {p : Pos} {x y : Int} (ha : PE C m nw a (vI x)) (hb : PE C m nw b (vI y)) (hy : y ≠ 0) : PE C m nw (.BinOp a .Mod b p) (vI (x.fmod y)) :=
  PX.bin ha hb fun s _ _ _ ⟨_, e⟩ ⟨_, e'⟩ => TX.tok fun E Q h => by subst e e'; exact PyProof.Rows.mod_int hy (h _ _ ⟨_, rfl⟩)
theorem PE.fdiv {a b : Expr} {p : Pos} {x y : Int} (ha : PE C m nw a (vI x)) (hb : PE C m nw b (vI y)) (hy : y ≠ 0) (hl : y.natAbs.log2 < 9000) : PE C m nw (.BinOp a .FloorDiv b p) (vI (x.fdiv y)) :=
  PX.bin ha hb fun s _ _ _ ⟨_, e⟩ ⟨_, e'⟩ => TX.tok fun E Q h => by subst e e'; exact floordiv_int hy (h _ _ ⟨_, rfl⟩) (Or.inl (PyProof.noPylong_of_log2 hl))
theorem PE.cat {a b : Expr} {p : Pos} {x y : Str} (ha : PE C m nw a (vS x)) (hb : PE C m nw b (vS y)) (hz : x.length + y.length ≤ sizeLine) : PE C m nw (.BinOp a .Add b p) (vS (x ++ y)) :=
  PX.bin ha hb fun s _ _ _ ⟨_, e⟩ ⟨_, e'⟩ => TX.tok fun E Q h => by subst e e'; exact PyProof.Rows.add_str (fun t' tk => h _ _ ⟨_, rfl⟩) hz

theorem PX.item {a b : Expr} {p : Pos} {Pa Pb : VP} {F : FP} (ha : PE C m nw a Pa) (hb : PE C m nw b Pb)
    (h : ∀ s v v', C.St m nw s → Pa v → Pb v' → TX C (PyProof.Rows.subscriptTail a b v v') F s) : PX C m nw (.Subscript a b p) F :=
  PX.mk fun _ _ S => Subscript_ (two S ha hb h)
theorem seqIndex_at {i : Int} {n : Nat} (h0 : 0 ≤ i) (h1 : i < n) : seqIndex? i n = some i.toNat := by
  unfold seqIndex?
  simp only [show ¬ i < 0 by omega, if_false]
  simp [h0, h1]
theorem fits63 {i : Int} (h0 : 0 ≤ i) (h1 : i < 2 ^ 63) : (decide (i < -(2 ^ 63 : Int)) || decide (i ≥ 2 ^ 63)) = false := by
  have : (2:Int)^63 = 9223372036854775808 := by decide
  rw [Bool.or_eq_false_iff]; constructor <;> exact decide_eq_false (by omega)
theorem PE.strIdx {a b : Expr} {p : Pos} {x : Str} {i : Int} (ha : PE C m nw a (vS x)) (hb : PE C m nw b (vI i)) (h0 : 0 ≤ i) (h1 : i < x.length) (hz : i < 2 ^ 63)
    (hs : ∀ t u, subscripted b false (.str x t) (.int i u) = operate [.str x t, .int i u] (getItem (.str x t) (.int i u)) := by intros; with_unfolding_all rfl) :
    PE C m nw (.Subscript a b p) (vS ⟨#[x.cps.getD i.toNat 0]⟩) :=
  PX.item ha hb fun s v v' _ ⟨t, e⟩ ⟨u, e'⟩ => TX.tok fun E Q h => by
    subst e e'
    have hx : x.cps[i.toNat]? = some (x.cps.getD i.toNat 0) := by
      have : i.toNat < x.cps.size := by have : x.length = x.cps.size := rfl; omega
      rw [Array.getD_eq_getD_getElem?, Array.getElem?_eq_getElem this]; rfl
    refine tail_any (typeIs_str s x t) PySem.F.slot_str_getitem.lookup (PyProof.Rows.getItem_str (c := x.cps.getD i.toNat 0) (fits63 h0 hz) ?_ (h _ _ ⟨_, rfl⟩)) (hs t u)
    rw [seqIndex_at h0 h1]; exact hx

theorem PE.strSlice {a b c : Expr} {p q : Pos} {x : Str} {i j : Int} (ha : PE C m nw a (vS x)) (hb : PE C m nw b (vI i)) (hc : PE C m nw c (vI j)) (hz : x.length ≤ sizeLine)
    (ht : ∀ o r, letTemporaryGo a o r = pure () := by intro _ _; rfl) :
    PE C m nw (.Subscript a (.Slice (some b) (some c) none q) p) (vS (Txt.slice x (some i) (some j))) :=
  PX.mk fun s E S => Subscript_Slice (ha.go S (fun v s₁ k₁ S₁ x₁ => by
    obtain ⟨t, rfl⟩ := x₁
    refine wpAny_Slice ?_
    rw [evalPart_some]
    refine hb.go S₁ fun v s₂ k₂ S₂ x₂ => ?_
    obtain ⟨u, rfl⟩ := x₂
    rw [evalPart_some]
    refine hc.go S₂ fun v s₃ k₃ S₃ x₃ => ?_
    obtain ⟨u', rfl⟩ := x₃
    rw [evalPart_none]
    refine wpAny_pure ?_
    refine SBH.sliceItem_ss (P := fun h => ∀ b o, s₃.heap.get? b = some o → h.get? b = some o) (fun h ob k b o e => Heap.get?_push_of_some _ (k b o e)) (fun _ _ e => e) (fun h' t' k hk => ⟨?_, [], ⟨⟨_, rfl⟩, rfl⟩, Fresh.nil⟩) hz
    exact keeps_tr k₁ (keeps_tr k₂ (keeps_tr k₃ ⟨h', k, rfl, hk⟩)))) ht
end
end
end Mine

-- part L1
namespace Mine
noncomputable section

/-- the statements run to their end, and no exception leaves them -/
structure Ex (C : Cx) (ss : List Stmt) (Q : Flow → Shared → Prop) (s : Shared) : Prop where
  run : wpAny (model pg C.w) C.A (execs ss C.env) Q (fun _ _ => False) s
/-- a value goes into a target -/
structure As (C : Cx) (target : Expr) (v : Value) (Q : Shared → Prop) (s : Shared) : Prop where
  run : wpAny (model pg C.w) C.A (assign target C.env v) (fun _ s' => Q s') (fun _ _ => False) s
abbrev thenQ (C : Cx) (rest : List Stmt) (Q : Flow → Shared → Prop) : Flow → Shared → Prop := fun fl s₂ => match fl with | .next => Ex C rest Q s₂ | fl => Q fl s₂
theorem ex_cons {C : Cx} {st : Stmt} {rest : List Stmt} {Q : Flow → Shared → Prop} {s : Shared} (h : wpAny (model pg C.w) C.A (exec st C.env) (thenQ C rest Q) (fun _ _ => False) s) : Ex C (st :: rest) Q s :=
  ⟨wpAny_execs_cons (wpAny_mono h (fun fl s₂ z => by cases fl <;> first | exact z.run | exact z) fun _ _ z => z)⟩

def RetX (s : Shared) (F : FP) : Result → Shared → Prop := fun r s' => ∃ v, r = .ok (.ret v) ∧ Keeps s s' ∧ ∃ ext, F v ext ∧ Fresh s.heap s'.heap ext

theorem envOf_good {w : World} {A : Around} {d u : Nat} {name : Str} {scope : Scope} {L a : Addr} {cd : Value} {h₀ : Heap} {s₀ : Shared} (hk : Ok A (d + 1) (u + 3)) (g : GI w h₀) (h : scope.kind = .function) :
    (⟨w, A.deeper (envOf name scope L a cd), envOf name scope L a cd, h₀, s₀⟩ : Cx).Good d u :=
  ⟨g, hk.deeper _, h, rfl, rfl⟩

/-- the frame of a call of the function at f -/
noncomputable def envAt (w : World) (f L : Addr) : Env :=
  match (KF w).lookup f with
  | some o => match o.data with
    | .func fd => envOf fd.name fd.scope L f fd.code
    | _ => envOf "" { kind := .function, names := [], isGenerator := false, isCoroutine := false } L f .none
  | none => envOf "" { kind := .function, names := [], isGenerator := false, isCoroutine := false } L f .none
theorem envAt_eq {w : World} {f L : Addr} {oc : Value} {od : Option Addr} {osl : Array (Option Value)} {name : Str} {params : Arguments} {body : List Stmt} {scope : Scope} {pm cd doc : Value}
    (ho : (KF w).lookup f = some ⟨oc, od, .func (docDef name params body scope pm cd doc), osl⟩) : envAt w f L = envOf name scope L f cd := by
  unfold envAt; rw [ho]; rfl
noncomputable def CF (w : World) (f : Addr) (A : Around) (s : Shared) (L : Addr) : Cx := ⟨w, A.deeper (envAt w f L), envAt w f L, s.heap, s⟩

theorem fnCall {w : World} {A : Around} {d u : Nat} {s : Shared} {f : Addr} {oc : Value} {od : Option Addr} {osl : Array (Option Value)} {name : Str} {params : Arguments} {body : List Stmt} {scope : Scope} {pm cd doc : Value} {args : List Value} {binds : List (Str × Value)} {F : FP}
    (hk : Ok A (d + 1) (u + 3)) (g : GI w s.heap) (ht : 0 < s.toks) (ho : (KF w).lookup f = some ⟨oc, od, .func (docDef name params body scope pm cd doc), osl⟩) (hcd : codeIn (KF w) cd name = true)
    (hbind : bindArgs (docDef name params body scope pm cd doc) ⟨args, []⟩ = pure binds) (hloc : ∀ x ∈ binds, scope.names.lookup x.1 = some .local)
    (h : ∀ L s₁, (CF w f A s L).Good d u → (CF w f A s L).St (fun x => binds.reverse.lookup x) [] s₁ →
      Ex (CF w f A s L) body (fun fl s' => ∃ v, fl = .ret v ∧ Keeps s s' ∧ ∃ ext, F v ext ∧ Fresh s.heap s'.heap ext) s₁)
    (hco : scope.isCoroutine = false := by rfl) (hgen : scope.isGenerator = false := by rfl) (hkk : scope.kind = .function := by rfl) (hcell : ∀ x ∈ scope.names, x.2 ≠ .cell := by decide +kernel) :
    codeAny (model pg w) A (.call (.ref f) ⟨args, []⟩) (RetX s F) s := by
  refine call_plain_ret hk.room (g.K _ _ ho) rfl g.nolimit (codeRec_of g.K hcd) hbind hloc (fun h₁ F => ?_) hco hgen hkk hcell
  have e : CF w f A s s.heap.objs.size = ⟨w, A.deeper (envOf name scope s.heap.objs.size f cd), envOf name scope s.heap.objs.size f cd, s.heap, s⟩ := by unfold CF; rw [envAt_eq ho]
  have h := h s.heap.objs.size
  rw [e] at h
  refine wpAny_mono (h _ (envOf_good hk g hkk) ⟨⟨h₁, _, rfl⟩, F, (fun _ hp => nomatch hp), List.nodup_nil, Nat.lt_of_lt_of_le ht (Nat.le_add_right _ _)⟩).run (fun fl s' x => ?_) fun _ _ x => x
  obtain ⟨v, rfl, x⟩ := x
  exact ⟨v, rfl, x⟩

section
variable {C : Cx} {m : Str → Option Value} {nw : Ld} {s : Shared} {Q : Flow → Shared → Prop} {rest : List Stmt} {p q : Pos}

theorem Cx.St.out (S : C.St m nw s) (e : C.h₀ = C.s₀.heap) : Keeps C.s₀ s := by
  obtain ⟨h, t, rfl⟩ := S.same
  exact ⟨h, t, rfl, fun b o q => S.fr.keep b o (e ▸ q)⟩
theorem Cx.St.fresh (S : C.St m nw s) {ext : Ld} (hs : ext.Sublist nw) : Fresh C.h₀ s.heap ext :=
  ⟨fun p hp => ⟨(S.led p (hs.subset hp)).2.2, (S.led p (hs.subset hp)).1⟩, S.nd.sublist (hs.map _)⟩

def upd (m : Str → Option Value) (x : Str) (v : Value) : Str → Option Value := fun y => if y = x then some v else m y

theorem st_name {x : Str} {v : Value} {Q : Unit → Shared → Prop} {E : Value → Shared → Prop} (S : C.St m nw s)
    (h : ∀ s', C.St (upd m x v) nw s' → Q () s')
    (hk : C.env.scope.kind = .function := by first | kernel_rfl | rfl) (hl : C.env.kindOf x = some .local := by first | kernel_rfl | rfl) :
    wpAny (model pg C.w) C.A (storeName C.env x v) Q E s :=
  wpAny_storeName_local hl S.fr.ns (fun h' hn hs => h _ ⟨let ⟨a, b, e⟩ := S.same; ⟨h', s.toks + 1, by rw [e]⟩, S.fr.set hn hs, fun p hp => let ⟨⟨o, a, b⟩, c⟩ := S.led p hp; ⟨⟨o, (hs.2 _ c.1).trans a, b⟩, c⟩, S.nd, Nat.lt_succ_of_lt S.tk⟩)
    (by rw [hk]; rfl)

theorem s_assign {x : Str} {e : Expr} {F : FP} (S : C.St m nw s) (he : PX C m nw e F)
    (h : ∀ v ext s₂, F v ext → C.St (upd m x v) (ext ++ nw) s₂ → Ex C rest Q s₂)
    (hk : C.env.scope.kind = .function := by first | kernel_rfl | rfl) (hl : C.env.kindOf x = some .local := by first | kernel_rfl | rfl) (hs : swapsWith e (some (.Name x q)) p.line C.env = pure false := by first | kernel_rfl | rfl) :
    Ex C (.Assign [.Name x q] e p :: rest) Q s := by
  refine ex_cons (wpAny_Assign_Name (he.go S fun v s₁ ext k _ S₁ f fr => ?_) hs)
  exact st_name S₁ (fun s₂ S₂ => h v ext s₂ f S₂) hk hl
theorem s_assignI {x : Str} {e : Expr} {i : Int} (S : C.St m nw s) (he : PE C m nw e (vI i))
    (h : ∀ t s₂, C.St (upd m x (.int i t)) nw s₂ → Ex C rest Q s₂)
    (hk : C.env.scope.kind = .function := by first | kernel_rfl | rfl) (hl : C.env.kindOf x = some .local := by first | kernel_rfl | rfl) (hs : swapsWith e (some (.Name x q)) p.line C.env = pure false := by first | kernel_rfl | rfl) :
    Ex C (.Assign [.Name x q] e p :: rest) Q s :=
  s_assign S he (fun v ext s₂ ⟨⟨t, a⟩, b⟩ S₂ => by subst a b; exact h t s₂ S₂) hk hl hs
theorem s_assignS {x y : Str} {e : Expr} (S : C.St m nw s) (he : PE C m nw e (vS y))
    (h : ∀ t s₂, C.St (upd m x (.str y t)) nw s₂ → Ex C rest Q s₂)
    (hk : C.env.scope.kind = .function := by first | kernel_rfl | rfl) (hl : C.env.kindOf x = some .local := by first | kernel_rfl | rfl) (hs : swapsWith e (some (.Name x q)) p.line C.env = pure false := by first | kernel_rfl | rfl) :
    Ex C (.Assign [.Name x q] e p :: rest) Q s :=
  s_assign S he (fun v ext s₂ ⟨⟨t, a⟩, b⟩ S₂ => by subst a b; exact h t s₂ S₂) hk hl hs
theorem s_assignN {x : Str} {e : Expr} {O : OP} (S : C.St m nw s) (he : PN C m nw e O)
    (h : ∀ a s₂, C.St (upd m x (.ref a)) ((a, O) :: nw) s₂ → Ex C rest Q s₂)
    (hk : C.env.scope.kind = .function := by first | kernel_rfl | rfl) (hl : C.env.kindOf x = some .local := by first | kernel_rfl | rfl) (hs : swapsWith e (some (.Name x q)) p.line C.env = pure false := by first | kernel_rfl | rfl) :
    Ex C (.Assign [.Name x q] e p :: rest) Q s :=
  s_assign S he (fun v ext s₂ ⟨t, a, b⟩ S₂ => by subst a b; exact h t s₂ S₂) hk hl hs
theorem s_ret {e : Expr} {F : FP} (S : C.St m nw s) (he : PX C m nw e F)
    (h : ∀ v ext s₁, F v ext → C.St m (ext ++ nw) s₁ → Q (.ret v) s₁) :
    Ex C (.Return (some e) p :: rest) Q s :=
  ex_cons (wpAny_Return_some (he.go S fun v s₁ ext k _ S₁ f fr => h v ext s₁ f S₁))

/-- a test -/
structure PT (C : Cx) (m : Str → Option Value) (nw : Ld) (e : Expr) (b : Bool) : Prop where
  run : ∀ s E, C.St m nw s → wpAny (model pg C.w) C.A (isTrue e C.env (eval e C.env)) (fun r s' => Keeps s s' ∧ r = b) E s
theorem s_if {e : Expr} {b : Bool} {t f : List Stmt} (S : C.St m nw s) (he : PT C m nw e b)
    (ht : b = true → ∀ s₁, C.St m nw s₁ → Ex C t (thenQ C rest Q) s₁)
    (hf : b = false → ∀ s₁, C.St m nw s₁ → Ex C f (thenQ C rest Q) s₁) :
    Ex C (.If e t f p :: rest) Q s := by
  refine ex_cons (wpAny_If (wpAny_mono (wpAny_toks (he.run s _ S)) (fun r s₁ z => ?_) fun _ _ z => z.2))
  obtain ⟨tk, k, rfl⟩ := z
  cases r with
  | true => exact (ht rfl s₁ (S.keeps k tk)).run
  | false => exact (hf rfl s₁ (S.keeps k tk)).run
theorem s_nil (h : Q .next s) : Ex C [] Q s := ⟨wpAny_execs_nil h⟩

/-- one comparison -/
theorem PT.cmp {op : CmpOp} {a b : Expr} {Pa Pb : VP} {r : Bool} (ha : PE C m nw a Pa) (hb : PE C m nw b Pb)
    (h : ∀ s v v', C.St m nw s → Pa v → Pb v' → ∀ E (Q : Value → Shared → Prop), (∀ k, Q (.bool r) { s with toks := k }) → wpAny (model pg C.w) C.A (compareOp op v v') Q E s)
    (hm : behindInMarks op b = false := by with_unfolding_all rfl) : PT C m nw (.Compare a [op] [b] p) r := by
  refine PT.mk fun s E S => ?_
  refine wpAny_isTrue_Compare1 ?_ hm
  refine ha.go S fun v s₁ k₁ S₁ p₁ => hb.go S₁ fun v' s₂ k₂ S₂ p₂ => ?_
  refine h s₂ v v' S₂ p₁ p₂ E _ fun k => ?_
  exact wpAny_truthy_bool ⟨keeps_tr k₁ (keeps_tr k₂ (keeps_tok _ k)), rfl⟩
theorem PT.eqI {a b : Expr} {x y : Int} (ha : PE C m nw a (vI x)) (hb : PE C m nw b (vI y)) (hm : behindInMarks .Eq b = false := by with_unfolding_all rfl) : PT C m nw (.Compare a [.Eq] [b] p) (x == y) :=
  PT.cmp ha hb (fun s _ _ _ ⟨_, e⟩ ⟨_, e'⟩ E Q h => by subst e e'; exact wpAny_eq_int (h _)) hm
theorem PT.ltI {a b : Expr} {x y : Int} (ha : PE C m nw a (vI x)) (hb : PE C m nw b (vI y)) (hm : behindInMarks .Lt b = false := by with_unfolding_all rfl) : PT C m nw (.Compare a [.Lt] [b] p) (decide (x < y)) :=
  PT.cmp ha hb (fun s _ _ _ ⟨_, e⟩ ⟨_, e'⟩ E Q h => by subst e e'; exact wpAny_lt_int (h _)) hm

/-- the values of the arguments -/
inductive AllP : List VP → List Value → Prop
  | nil : AllP [] []
  | cons {P Ps v vs} : P v → AllP Ps vs → AllP (P :: Ps) (v :: vs)
inductive PAs (C : Cx) (m : Str → Option Value) (nw : Ld) : List Expr → List VP → Prop
  | nil : PAs C m nw [] []
  | cons {e : Expr} {es P Ps} (h : PE C m nw e P) (t : PAs C m nw es Ps) (hs : ∀ rest, starEach (e :: rest) C.env = (false, eval e C.env) :: starEach rest C.env := by intro _; rfl) : PAs C m nw (e :: es) (P :: Ps)
theorem PAs.plain {es : List Expr} {Ps : List VP} (h : PAs C m nw es Ps) : (backTo q (starEach es C.env)).any (·.1) = false := by
  induction h with
  | nil => rfl
  | cons _ _ hs ih => rw [hs]; exact ih
theorem PAs.run {es : List Expr} {Ps : List VP} (h : PAs C m nw es Ps) : ∀ {s : Shared} {Q : List Value → Shared → Prop} {E : Value → Shared → Prop}, C.St m nw s → (∀ vs s', Keeps s s' → C.St m nw s' → AllP Ps vs → Q vs s') →
    wpAny (model pg C.w) C.A (spliced (backTo q (starEach es C.env))) Q E s := by
  induction h with
  | nil => intro s Q E S hq; exact wpAny_items_nil (hq _ _ (keeps_refl _) S .nil)
  | cons h t hs ih =>
    intro s Q E S hq
    refine wpAny_items_cons (h.go S fun v s₁ k₁ S₁ p₁ => ?_) (hs _)
    exact ih S₁ fun vs s' k S' a => hq _ _ (keeps_tr k₁ k) S' (.cons p₁ a)
theorem PAs.args {E : Value → Shared → Prop} {es : List Expr} {Ps : List VP} (h : PAs C m nw es Ps) {f : Value} {Q : Args → Shared → Prop} (S : C.St m nw s) (hq : ∀ vs s', Keeps s s' → C.St m nw s' → AllP Ps vs → Q ⟨vs, []⟩ s') :
    wpAny (model pg C.w) C.A (evalArgs f true (backTo q (starEach es C.env)) []) Q E s := by
  cases h with
  | nil => exact evalArgs_nil3 (hq _ _ (keeps_refl _) S .nil)
  | cons h t hs =>
    have := (PAs.cons h t hs).run (q := q) (E := E) S hq
    rw [hs] at this ⊢
    exact Calls.evalArgs_plain this

theorem PE.glob {d u : Nat} {x : Str} {v : Value} (G : C.Good d u) (hx : nsIn (KF C.w) mainGlobals x = some (some v)) (hl : C.env.kindOf x = some .globalImplicit := by first | kernel_rfl | rfl) (hd : (x == ("__debug__" : Str)) = false := by decide +kernel) :
    PE C m nw (.Name x p) (vIs v) := PX.mk fun s E S => by
  obtain ⟨mg, mb, g, b, nl, bi⟩ := G.gi.top
  refine Name_function_global G.kind hl (loadGlobal_global (env := C.env) (by rw [G.glob]; exact g.keeps S.fr.keep) (mg_of G.gi.K g hx) ⟨keeps_refl s, [], ⟨rfl, rfl⟩, Fresh.nil⟩) hd
theorem PE.bglob {d u : Nat} {x : Str} {v : Value} (G : C.Good d u) (hx : nsIn (KF C.w) mainGlobals x = some none) (hv : bootBuiltins x = some v) (hn : x ≠ "__name__" := by decide +kernel) (hl : C.env.kindOf x = some .globalImplicit := by first | kernel_rfl | rfl) (hd : (x == ("__debug__" : Str)) = false := by decide +kernel) :
    PE C m nw (.Name x p) (vIs v) := PX.mk fun s E S => by
  obtain ⟨mg, mb, g, b, nl, bi⟩ := G.gi.top
  refine Name_function_global G.kind hl (loadGlobal_builtin (env := C.env) (by rw [G.glob]; exact g.keeps S.fr.keep) (mg_none_of G.gi.K g hx) (by rw [G.bi]; exact b.keeps S.fr.keep) ((bi x hn).trans hv) ⟨keeps_refl s, [], ⟨rfl, rfl⟩, Fresh.nil⟩) hd

def isFuncD : Data → Bool
  | .func _ => true
  | _ => false
theorem isFuncD.of {x : Data} (h : isFuncD x = true) : ∃ fd, x = .func fd := by
  cases x <;> first | exact ⟨_, rfl⟩ | cases h
def isFn (K : Frag) (f : Addr) : Bool := (K.lookup f).any fun o => isFuncD o.data
theorem isFn.of {K : Frag} {f : Addr} (h : isFn K f = true) : ∃ o fd, K.lookup f = some o ∧ o.data = .func fd := by
  unfold isFn at h
  cases q : K.lookup f with
  | none => rw [q] at h; cases h
  | some o => rw [q] at h; obtain ⟨fd, e⟩ := isFuncD.of h; exact ⟨o, fd, rfl, e⟩
theorem PX.callF {d u : Nat} {x : Str} {f : Addr} {es : List Expr} {Ps : List VP} {F : FP} (G : C.Good d u) (hx : nsIn (KF C.w) mainGlobals x = some (some (.ref f))) (ha : PAs C m nw es Ps)
    (hc : ∀ s vs, GI C.w s.heap → C.St m nw s → AllP Ps vs → codeAny (model pg C.w) C.A (.call (.ref f) ⟨vs, []⟩) (RetX s F) s) (hl : C.env.kindOf x = some .globalImplicit := by first | kernel_rfl | rfl) (hf : isFn (KF C.w) f = true := by kernel_rfl) (hd : (x == ("__debug__" : Str)) = false := by decide +kernel) :
    PX C m nw (.Call (.Name x p) es [] q) F := PX.mk fun s E S => by
  refine wpAny_Call_NameR ((PE.glob G hx hl hd).go S fun v s₁ k S₁ z => ?_)
  have z : v = _ := z
  subst z
  obtain ⟨o, fd, ho, hfd⟩ := isFn.of hf
  refine callWith_function (o := o) (fd := fd) (ha.args S₁ fun vs s₂ k₂ S₂ hv => ?_)
  refine ⟨⟨(S₂.gi G).K _ _ ho, hfd⟩, wpAny_call (codeAny_mono (hc s₂ vs (S₂.gi G) S₂ hv) fun r s₃ z => ?_)⟩
  obtain ⟨v, rfl, k₃, ext, f, fr⟩ := z
  exact ⟨keeps_tr k (keeps_tr k₂ k₃), ext, f, fr.down (keepsH (keeps_tr k k₂))⟩
theorem PX.callB {d u : Nat} {x : Str} {id : String} {es : List Expr} {Ps : List VP} {F : FP} (G : C.Good d u) (hx : nsIn (KF C.w) mainGlobals x = some none) (hv : bootBuiltins x = some (.builtin id)) (ha : PAs C m nw es Ps)
    (hc : ∀ s vs, C.St m nw s → AllP Ps vs → TX C (call (.builtin id) vs) F s) (hn : x ≠ "__name__" := by decide +kernel) (hl : C.env.kindOf x = some .globalImplicit := by first | kernel_rfl | rfl) (hd : (x == ("__debug__" : Str)) = false := by decide +kernel) :
    PX C m nw (.Call (.Name x p) es [] q) F := PX.mk fun s E S => by
  refine wpAny_Call_NameR ((PE.bglob G hx hv hn hl hd).go S fun v s₁ k S₁ z => ?_)
  have z : v = _ := z
  subst z
  refine Calls.callWith_builtin ha.plain (ha.args S₁ fun vs s₂ k₂ S₂ hv => ?_)
  refine wpAny_mono (hc s₂ vs S₂ hv E) (fun r s₃ z => ?_) fun _ _ z => z
  obtain ⟨k₃, ext, f, fr⟩ := z
  exact ⟨keeps_tr k (keeps_tr k₂ k₃), ext, f, fr.down (keepsH (keeps_tr k k₂))⟩
theorem PX.callT {d u : Nat} {x : Str} {T : String} {es : List Expr} {Ps : List VP} {F : FP} (G : C.Good d u) (hx : nsIn (KF C.w) mainGlobals x = some none) (hv : bootBuiltins x = some (.type T)) (ha : PAs C m nw es Ps)
    (hc : ∀ s vs, C.St m nw s → AllP Ps vs → TX C (call (.type T) vs) F s) (hn : x ≠ "__name__" := by decide +kernel) (hl : C.env.kindOf x = some .globalImplicit := by first | kernel_rfl | rfl) (hd : (x == ("__debug__" : Str)) = false := by decide +kernel) :
    PX C m nw (.Call (.Name x p) es [] q) F := PX.mk fun s E S => by
  refine wpAny_Call_NameR ((PE.bglob G hx hv hn hl hd).go S fun v s₁ k S₁ z => ?_)
  have z : v = _ := z
  subst z
  refine PyProof.Rows.callWith_type ha.plain (ha.args S₁ fun vs s₂ k₂ S₂ hv => ?_)
  refine wpAny_mono (hc s₂ vs S₂ hv E) (fun r s₃ z => ?_) fun _ _ z => z
  obtain ⟨k₃, ext, f, fr⟩ := z
  exact ⟨keeps_tr k (keeps_tr k₂ k₃), ext, f, fr.down (keepsH (keeps_tr k k₂))⟩
end
end
end Mine

-- part L2
namespace Mine
noncomputable section

def plainIter (o : Obj) : Prop := ∃ n, o.cls = .type n ∧ ["enumerate", "zip", "dict_itemiterator", "dict_reverseitemiterator", "odict_iterator", "itertools.zip_longest", "itertools.pairwise"].contains n = false

/-- what a loop goes over -/
structure PSrc (C : Cx) (m : Str → Option Value) (nw : Ld) (iter : Expr) (n : Nat) (P : Nat → Value → Prop) (fixed : Ld) : Prop where
  run : ∀ s E, C.St m nw s → wpAny (model pg C.w) C.A (eval iter C.env) (fun x s₁ => wpAny (model pg C.w) C.A (pyIter x) (fun it s₂ => Keeps s s₂ ∧ ∃ I fp StI, it = .ref I ∧ Walks pg C.w C.A I fp [I] n P StI ∧ StI 0 s₂.heap ∧
    s.heap.get? I = none ∧ I ∈ fp ∧ (∀ i h, StI i h → ∃ o, h.get? I = some o ∧ plainIter o) ∧ (∀ b ∈ fp, b ≠ I → (∃ o, C.h₀.get? b = some o) ∨ ∃ o, (b, fun x => x = o) ∈ fixed) ∧ (∀ b ∈ fp, b < s₂.heap.objs.size)) E s₁) E s

theorem wp_letOwned {C : Cx} {target : Expr} {I : Addr} {v : Value} {o : Obj} {s : Shared} {E : Value → Shared → Prop} {Q : Unit → Shared → Prop} (ho : s.heap.get? I = some o) (hp : plainIter o) (h : Q () s) :
    wpAny (model pg C.w) C.A (letOwnedTupleGo target (.ref I) v) Q E s := by
  obtain ⟨n, hc, hn⟩ := hp
  unfold letOwnedTupleGo
  have key : wpAny (model pg C.w) C.A (do
      let (.ref r, .ref a) := ((Value.ref I, v) : Value × Value) | return
      let o ← load r
      match o.cls, o.data with
      | .type n, .fields vs =>
        if ["enumerate", "zip", "dict_itemiterator", "dict_reverseitemiterator", "odict_iterator", "itertools.zip_longest", "itertools.pairwise"].contains n && vs[0]? == some (rawInt a) then
          rule "for.unpacks-the-owned-tuple"
          updateField r 0 .none
      | _, _ => pure ()) Q E s := by
    cases v with
    | ref a =>
      refine wpAny_bind (wpAny_load ho ?_)
      rw [hc]
      cases o.data with
      | fields vs => dsimp only; rw [hn]; exact wpAny_pure h
      | _ => exact wpAny_pure h
    | _ => exact wpAny_pure h
  cases target with
  | Tuple a b c => exact key
  | List a b => exact key
  | _ => exact wpAny_pure h

section
variable {C : Cx} {m : Str → Option Value} {nw : Ld} {s : Shared} {Q : Flow → Shared → Prop} {rest body : List Stmt} {p q : Pos}

/-- the end of a turn -/
abbrev loopQ (C : Cx) (Q : Flow → Shared → Prop) (O : OP) (I : Addr) (Inv : (Str → Option Value) → Ld → Prop) : Flow → Shared → Prop := fun fl s₃ => match fl with
  | .next | .cont => ∃ m₂ nw₂, C.St m₂ ((I, O) :: nw₂) s₃ ∧ Inv m₂ nw₂
  | .ret v => Q (.ret v) s₃
  | .brk => False

theorem s_for {target iter : Expr} {n : Nat} {P : Nat → Value → Prop} {fixed : Ld} (Inv : Nat → (Str → Option Value) → Ld → Prop) (S : C.St m nw s) (hsrc : PSrc C m nw iter n P fixed)
    (h0 : Inv 0 m nw) (hfix : ∀ i m₁ nw₁, Inv i m₁ nw₁ → ∀ x ∈ fixed, x ∈ nw₁)
    (hturn : ∀ i v I oI m₁ nw₁ s₁, i < n → P i v → Inv i m₁ nw₁ → C.St m₁ ((I, fun x => x = oI) :: nw₁) s₁ →
      As C target v (Ex C body (loopQ C Q (fun x => x = oI) I (Inv (i + 1)))) s₁)
    (hafter : ∀ m₁ nw₁ s₁, Inv n m₁ nw₁ → C.St m₁ nw₁ s₁ → Ex C rest Q s₁)
    (hs : ∀ x, foldedSetIterable iter C.env x = pure x := by intro _; rfl) :
    Ex C (.For target iter body [] p :: rest) Q s := by
  refine ex_cons (wpAny_For (wpAny_mono (wpAny_toks (hsrc.run s _ S)) (fun x s₁ z => wpAny_mono (wpAny_toks z.2) (fun it s₂ z' => ?_) fun _ _ z => z.2) fun _ _ z => z.2) hs)
  have tk₂ : s.toks ≤ s₂.toks := Nat.le_trans z.1 z'.1
  obtain ⟨k, I, fp, StI, rfl, W, hst, hI, hIfp, hob, hfp, hlt⟩ := z'.2
  -- the turn's state
  refine codeAny_forLoop_any (fun k s' => ∃ i m₁ nw₁ oI, k = n - i ∧ i ≤ n ∧ StI i s'.heap ∧ Inv i m₁ nw₁ ∧ C.St m₁ ((I, fun x => x = oI) :: nw₁) s') ?_ n ?_
  · rintro _ s' ⟨i, m₁, nw₁, oI, rfl, hi, hst', hinv, S'⟩
    -- the iterator's object may be another one
    have move : ∀ {i : Nat} {s' : Shared} {h' : Heap} {k : Nat} {oI : Obj}, C.St m₁ ((I, fun x => x = oI) :: nw₁) s' → (∀ b o, b ∉ [I] → s'.heap.get? b = some o → h'.get? b = some o) → s'.toks ≤ k → ∀ o', h'.get? I = some o' →
        C.St m₁ ((I, fun x => x = o') :: nw₁) { s' with heap := h', toks := k } := by
      intro i s' h' k oI S' hk htk o' ho'
      have key : ∀ b o, b ≠ I → s'.heap.get? b = some o → h'.get? b = some o := fun b o hb e => hk b o (by simpa using hb) e
      obtain ⟨_, hIL, hI0⟩ := S'.led _ (.head _)
      have hIL : I ≠ C.env.locals := hIL
      have hI0 : C.h₀.get? I = none := hI0
      have nd := S'.nd
      rw [List.map_cons, List.nodup_cons] at nd
      refine ⟨let ⟨_, _, e⟩ := S'.same; ⟨h', k, by rw [e]⟩, ⟨let ⟨o, es, ep, ho, r⟩ := S'.fr.ns; ⟨o, es, ep, key _ _ (Ne.symm hIL) ho, r⟩, fun b o e => key b o (fun q => by rw [q, hI0] at e; cases e) (S'.fr.keep b o e), S'.fr.above⟩, fun p hp => ?_, S'.nd, Nat.lt_of_lt_of_le S'.tk htk⟩
      rcases List.mem_cons.mp hp with rfl | hp
      · exact ⟨⟨o', ho', rfl⟩, hIL, hI0⟩
      · obtain ⟨⟨o, e, q⟩, r⟩ := S'.led p (.tail _ hp)
        exact ⟨⟨o, key _ _ (fun q => nd.1 (by rw [← q]; exact List.mem_map_of_mem (f := (·.1)) hp)) e, q⟩, r⟩
    by_cases hlt' : i < n
    · refine wpAny_with_toks (Nat.le_refl _) (W.item i s' _ _ hlt' hst' fun v h' tk hP hst'' hk htk => ?_)
      obtain ⟨o', ho', hpl⟩ := hob _ _ hst''
      have S'' := move (i := i) (k := tk) S' hk htk o' ho'
      refine wp_letOwned ho' hpl ?_
      refine wpAny_mono (hturn i v I o' m₁ nw₁ _ hlt' hP hinv S'').run (fun _ s₂ z => wpAny_mono z.run (fun fl s₃ z => ?_) fun _ _ z => z.elim) fun _ _ z => z.elim
      have fin : (∃ m₂ nw₂, C.St m₂ ((I, fun x => x = o') :: nw₂) s₃ ∧ Inv (i + 1) m₂ nw₂) → ∃ m, m < n - i ∧ ∃ i m₁ nw₁ oI, m = n - i ∧ i ≤ n ∧ StI i s₃.heap ∧ Inv i m₁ nw₁ ∧ C.St m₁ ((I, fun x => x = oI) :: nw₁) s₃ := by
        rintro ⟨m₂, nw₂, S₃, hinv'⟩
        refine ⟨n - (i + 1), by omega, i + 1, m₂, nw₂, o', rfl, hlt', W.frame _ _ _ hst'' fun b hb o e => ?_, hinv', S₃⟩
        by_cases hbI : b = I
        · subst hbI
          obtain ⟨⟨o₃, e₃, q₃⟩, _⟩ := S₃.led _ (.head _)
          have : o = o' := Option.some.inj (e.symm.trans ho')
          rw [this, ← q₃]; exact e₃
        · rcases hfp b hb hbI with ⟨o₀, e₀⟩ | ⟨o₁, hf⟩
          · have := S''.fr.keep b o₀ e₀
            have : o = o₀ := Option.some.inj (e.symm.trans this)
            rw [this]; exact S₃.fr.keep b o₀ e₀
          · obtain ⟨⟨o₂, e₂, q₂⟩, _⟩ := S''.led _ (.tail _ (hfix _ _ _ hinv _ hf))
            obtain ⟨⟨o₃, e₃, q₃⟩, _⟩ := S₃.led _ (.tail _ (hfix _ _ _ hinv' _ hf))
            have : o = o₂ := Option.some.inj (e.symm.trans e₂)
            have q₂ : o₂ = o₁ := q₂
            have q₃ : o₃ = o₁ := q₃
            rw [this, q₂, ← q₃]; exact e₃
      cases fl with
      | next => exact fin z
      | cont => exact fin z
      | brk => exact z.elim
      | ret v => exact z
    · have hin : i = n := by omega
      subst hin
      refine wpAny_with_toks (Nat.le_refl _) (W.done s' _ _ hst' fun h' tk hk htk => wpAny_execs_nil ?_)
      have hs' : C.St m₁ nw₁ { s' with heap := h', toks := tk } := by
        obtain ⟨_, hIL, hI0⟩ := S'.led _ (.head _)
        have hIL : I ≠ C.env.locals := hIL
        have hI0 : C.h₀.get? I = none := hI0
        have nd := S'.nd
        rw [List.map_cons, List.nodup_cons] at nd
        have key : ∀ b o, b ≠ I → s'.heap.get? b = some o → h'.get? b = some o := fun b o hb e => hk b o (by simpa using hb) e
        refine ⟨let ⟨_, _, e⟩ := S'.same; ⟨h', tk, by rw [e]⟩, ⟨let ⟨o, es, ep, ho, r⟩ := S'.fr.ns; ⟨o, es, ep, key _ _ (Ne.symm hIL) ho, r⟩, fun b o e => key b o (fun q => by rw [q, hI0] at e; cases e) (S'.fr.keep b o e), S'.fr.above⟩, fun p hp => ?_, nd.2, Nat.lt_of_lt_of_le S'.tk htk⟩
        obtain ⟨⟨o, e, q⟩, r⟩ := S'.led p (.tail _ hp)
        exact ⟨⟨o, key _ _ (fun q => nd.1 (by rw [← q]; exact List.mem_map_of_mem (f := (·.1)) hp)) e, q⟩, r⟩
      exact hafter m₁ nw₁ _ hinv hs'
  · obtain ⟨o, ho, hpl⟩ := hob _ _ hst
    refine ⟨0, m, nw, o, by omega, Nat.zero_le _, hst, h0, ?_⟩
    have : Fresh s.heap s₂.heap [(I, fun x => x = o)] := ⟨fun p hp => by rw [List.mem_singleton.mp hp]; exact ⟨hI, o, ho, rfl⟩, by simp⟩
    exact S.ext k this tk₂
end
end
end Mine

-- part L3
namespace Mine
noncomputable section

def oL (Ps : List VP) : OP := fun o => ∃ vs k, o = W.listOf vs.toArray k ∧ AllP Ps vs
def oT (Ps : List VP) : OP := fun o => ∃ vs k, o = { cls := .type "tuple", data := .seq vs.toArray k } ∧ AllP Ps vs

theorem AllP.length {Ps : List VP} {vs : List Value} (h : AllP Ps vs) : vs.length = Ps.length := by
  induction h with
  | nil => rfl
  | cons _ _ ih => simp [ih]
theorem AllP.get {Ps : List VP} {vs : List Value} (h : AllP Ps vs) : ∀ {i : Nat} {P : VP}, Ps[i]? = some P → ∃ v, vs[i]? = some v ∧ P v := by
  induction h with
  | nil => intro i P e; simp at e
  | cons p _ ih =>
    intro i P e
    cases i with
    | zero => simp at e; subst e; exact ⟨_, rfl, p⟩
    | succ i => simp at e; simpa using ih e
theorem AllP.get' {Ps : List VP} {vs : List Value} (h : AllP Ps vs) {i : Nat} {v : Value} (e : vs[i]? = some v) : ∃ P, Ps[i]? = some P ∧ P v := by
  have hl : i < Ps.length := by
    rw [← h.length]; exact (List.getElem?_eq_some_iff.mp e).1
  obtain ⟨v', e', p⟩ := h.get (List.getElem?_eq_getElem hl)
  rw [e] at e'; cases e'
  exact ⟨_, List.getElem?_eq_getElem hl, p⟩
theorem AllP.app {Ps Ps' : List VP} {vs vs' : List Value} (h : AllP Ps vs) (h' : AllP Ps' vs') : AllP (Ps ++ Ps') (vs ++ vs') := by
  induction h with
  | nil => exact h'
  | cons p _ ih => exact .cons p ih
theorem AllP.snoc {Ps : List VP} {P : VP} {vs : List Value} {v : Value} (h : AllP Ps vs) (p : P v) : AllP (Ps ++ [P]) (vs ++ [v]) := h.app (.cons p .nil)
theorem AllP.of_map {α : Type} {f : α → VP} : ∀ {l : List α} {vs : List Value}, vs.length = l.length → (∀ (i : Nat) (a : α) (v : Value), l[i]? = some a → vs[i]? = some v → f a v) → AllP (l.map f) vs
  | [], [], _, _ => .nil
  | a :: l, v :: vs, hl, h => .cons (h 0 a v rfl rfl) (AllP.of_map (by simpa using hl) fun (i : Nat) a v e e' => h (i + 1) a v (by simpa using e) (by simpa using e'))
  | [], _ :: _, hl, _ => by simp at hl
  | _ :: _, [], hl, _ => by simp at hl

/-- an object that stays, of the ground or of the ledger -/
def Has (C : Cx) (nw : Ld) (a : Addr) (O : OP) : Prop := (∃ o, C.h₀.get? a = some o ∧ O o) ∨ (a, O) ∈ nw
theorem Has.get {C : Cx} {m : Str → Option Value} {nw : Ld} {s : Shared} {a : Addr} {O : OP} (h : Has C nw a O) (S : C.St m nw s) : ∃ o, s.heap.get? a = some o ∧ O o := by
  rcases h with ⟨o, e, q⟩ | h
  · exact ⟨o, S.fr.keep _ _ e, q⟩
  · exact S.at h
theorem isList_of {h : Heap} {a : Addr} {vs : List Value} {k : Nat} (e : h.get? a = some (W.listOf vs.toArray k)) : h.IsList a vs.toArray := ⟨_, e, rfl, k, rfl⟩

section
variable {C : Cx} {m : Str → Option Value} {nw : Ld} {s : Shared} {Q : Flow → Shared → Prop} {rest body : List Stmt} {p q : Pos} {d u : Nat}

theorem PE.idxL {a b : Expr} {l : Addr} {Ps : List VP} {P : VP} {i : Int} (ha : PE C m nw a (vIs (.ref l))) (hl : Has C nw l (oL Ps)) (hb : PE C m nw b (vI i)) (h0 : 0 ≤ i) (hz : i < 2 ^ 63) (hP : Ps[i.toNat]? = some P)
    (hs : ∀ u, subscripted b false (.ref l) (.int i u) = operate [.ref l, .int i u] (getItem (.ref l) (.int i u)) := by intros; with_unfolding_all rfl) :
    PE C m nw (.Subscript a b p) P :=
  PX.item ha hb fun s v v' S e ⟨u, e'⟩ => TX.tok fun E Q h => by
    have e : v = .ref l := e
    subst e e'
    obtain ⟨o, ho, vs, k, rfl, av⟩ := hl.get S
    obtain ⟨x, hx, px⟩ := av.get hP
    exact tail_any (isList_of ho).typeIs slot_list_getitem.lookup (wpAny_getItem_list (isList_of ho) h0 hz (by simpa using hx) (h _ s.toks px)) (hs u)

theorem PN.list {es : List Expr} {Ps : List VP} (ha : PAs C m nw es Ps) (hz : Ps.length ≤ sizeLine) : PN C m nw (.List es p) (oL Ps) := PX.mk fun s E S => by
  refine wpAny_List (ha.run S fun vs s₁ k S₁ av => ⟨by rw [av.length]; exact hz, keeps_tr k (keeps_push s₁ _ s₁.toks), _, ⟨_, rfl, rfl⟩, ?_⟩)
  refine ⟨fun p hp => ?_, by simp⟩
  rw [List.mem_singleton.mp hp]
  exact ⟨none_of (keepsH k) (Heap.get?_none_of_le (Nat.le_refl _)), _, Heap.get?_push_size _ rfl, vs, 0, rfl, av⟩
theorem PN.tup {es : List Expr} {n : Nat} {Ps : List VP} (ha : PAs C m nw es Ps) (hz : Ps.length ≤ sizeLine) : PN C m nw (.Tuple es n p) (oT Ps) := PX.mk fun s E S => by
  refine wpAny_Tuple (ha.run S fun vs s₁ k S₁ av => ⟨by rw [av.length]; exact hz, keeps_tr k (keeps_push s₁ _ s₁.toks), _, ⟨_, rfl, rfl⟩, ?_⟩)
  refine ⟨fun p hp => ?_, by simp⟩
  rw [List.mem_singleton.mp hp]
  exact ⟨none_of (keepsH k) (Heap.get?_none_of_le (Nat.le_refl _)), _, Heap.get?_push_size _ rfl, vs, 0, rfl, av⟩

theorem PE.lenL {x : Str} {a : Expr} {l : Addr} {Ps : List VP} (G : C.Good d u) (hx : nsIn (KF C.w) mainGlobals x = some none) (hv : bootBuiltins x = some (.builtin "len")) (ha : PE C m nw a (vIs (.ref l))) (hl : Has C nw l (oL Ps)) (hz : (Ps.length : Int) < 2 ^ 63)
    (hst : ∀ rest, starEach (a :: rest) C.env = (false, eval a C.env) :: starEach rest C.env := by intro _; rfl)
    (hn : x ≠ "__name__" := by decide +kernel) (hk : C.env.kindOf x = some .globalImplicit := by first | kernel_rfl | rfl) (hd : (x == ("__debug__" : Str)) = false := by decide +kernel) : PE C m nw (.Call (.Name x p) [a] [] q) (vI Ps.length) :=
  PX.callB G hx hv (.cons ha .nil hst) (fun s vs S av => TX.tok fun E Q h => by
    cases av with
    | cons e av =>
      cases av
      have e : _ = Value.ref l := e
      subst e
      obtain ⟨o, ho, vs, k, rfl, av⟩ := hl.get S
      have hsz : (vs.toArray.size : Int) = Ps.length := by simp [av.length]
      refine PyProof.Rows.len_list (isList_of ho) (by rw [hsz]; exact hz) ?_
      rw [hsz]
      exact h _ _ ⟨_, rfl⟩) hn hk hd

/-- a list, gone over -/
theorem PSrc.list {a : Expr} {l : Addr} {vs : List Value} {k : Nat} {fixed : Ld} (hh : C.A.handled = none) (ha : PE C m nw a (vIs (.ref l))) (ho : C.h₀.get? l = some (W.listOf vs.toArray k) ∨ (l, fun x => x = W.listOf vs.toArray k) ∈ nw)
    (hf : C.h₀.get? l = none → (l, fun x => x = W.listOf vs.toArray k) ∈ fixed) : PSrc C m nw a vs.length (fun i v => vs[i]? = some v) fixed := PSrc.mk fun s E S => by
  refine ha.go S fun v s₁ k₁ S₁ x => ?_
  have x : v = _ := x
  subst x
  have hl : s₁.heap.get? l = some (W.listOf vs.toArray k) := by
    rcases ho with e | h
    · exact S₁.fr.keep _ _ e
    · obtain ⟨o, e, q⟩ := S₁.at h
      have q : o = _ := q
      rw [e, q]
  refine wpAny_pyIter_list (isList_of hl) ⟨keeps_tr k₁ (keeps_push s₁ _ s₁.toks), s₁.heap.objs.size, _, _, rfl, by
      have := Walks.list (prog := pg) (w := C.w) hh s₁.heap.objs.size l (Nat.ne_of_lt (Heap.lt_size hl)) vs.toArray
      simpa using this, ?_, none_of (keepsH k₁) (Heap.get?_none_of_le (Nat.le_refl _)), by simp, ?_, ?_, ?_⟩
  · exact ⟨⟨_, Heap.get?_push_size _ rfl, rfl, rfl⟩, isList_of (Heap.get?_push_of_some _ hl)⟩
  · rintro i h ⟨⟨o, e, c, _⟩, _⟩
    exact ⟨o, e, _, c, by decide⟩
  · intro b hb hne
    have : b = l := by simpa [hne] using hb
    subst this
    cases q : C.h₀.get? b with
    | none => exact .inr ⟨_, hf q⟩
    | some o => exact .inl ⟨o, rfl⟩
  · intro b hb
    have : b = s₁.heap.objs.size ∨ b = l := by simpa using hb
    show b < (s₁.heap.push _).objs.size
    rw [Heap.size_push]
    rcases this with rfl | rfl
    · exact Nat.lt_succ_self _
    · exact Nat.lt_succ_of_lt (Heap.lt_size hl)

theorem PSrc.rangeOf {a : Expr} {lo hi st : Int} {n : Nat} {fixed : Ld} (hh : C.A.handled = none) (hsm : Builtin.Range.small lo hi st = true) (hn : Builtin.Range.rangeSize lo hi st = n)
    (ha : ∀ s E, C.St m nw s → wpAny (model pg C.w) C.A (eval a C.env) (fun v s' => Keeps s s' ∧ ∃ r t u v', v = .ref r ∧ IsRange s'.heap r lo hi st t u v') E s) :
    PSrc C m nw a n (fun i v => ∃ t, v = .int (lo + (i : Nat) * st) t) fixed := PSrc.mk fun s E S => by
  refine wpAny_mono (ha s E S) (fun v s₁ x => ?_) fun _ _ x => x
  obtain ⟨k₁, r, t, u, v', rfl, hr⟩ := x
  refine wpAny_pyIter_range hr hsm ⟨keeps_tr k₁ (keeps_push s₁ _ s₁.toks), s₁.heap.objs.size, _, _, rfl, Walks.range (prog := pg) (w := C.w) hh s₁.heap.objs.size lo st n, ?_, none_of (keepsH k₁) (Heap.get?_none_of_le (Nat.le_refl _)), by simp, ?_, ?_, ?_⟩
  · show IsRangeIter _ _ _ _ _
    rw [hn]
    simp only [Int.natCast_zero, Int.zero_mul, Int.add_zero, Int.sub_zero]
    exact Heap.get?_push_size _ rfl
  · intro i h e
    exact ⟨_, e, _, rfl, by decide⟩
  · intro b hb hne
    exact absurd (by simpa using hb) hne
  · intro b hb
    have : b = s₁.heap.objs.size := by simpa using hb
    show b < (s₁.heap.push _).objs.size
    rw [Heap.size_push, this]; exact Nat.lt_succ_self _

theorem range_args {x : Str} {es : List Expr} {Ps : List VP} {lo hi st : Int} (G : C.Good d u) (hx : nsIn (KF C.w) mainGlobals x = some none) (hv : bootBuiltins x = some (.type "range")) (ha : PAs C m nw es Ps)
    (hc : ∀ s vs E (Q : Value → Shared → Prop), C.St m nw s → AllP Ps vs → (∀ r t u v k ob, (s.heap.push ob).get? s.heap.objs.size = some ob → IsRange (s.heap.push ob) r lo hi st t u v → Q (.ref r) { s with heap := s.heap.push ob, toks := k }) → wpAny (model pg C.w) C.A (call (.type "range") vs) Q E s)
    (hn : x ≠ "__name__" := by decide +kernel) (hk : C.env.kindOf x = some .globalImplicit := by first | kernel_rfl | rfl) (hd : (x == ("__debug__" : Str)) = false := by decide +kernel) :
    ∀ s E, C.St m nw s → wpAny (model pg C.w) C.A (eval (.Call (.Name x p) es [] q) C.env) (fun v s' => Keeps s s' ∧ ∃ r t u v', v = .ref r ∧ IsRange s'.heap r lo hi st t u v') E s := fun s E S => by
  refine wpAny_Call_NameR ((PE.bglob G hx hv hn hk hd).go S fun v s₁ k S₁ z => ?_)
  have z : v = _ := z
  subst z
  refine PyProof.Rows.callWith_type ha.plain (ha.args S₁ fun vs s₂ k₂ S₂ hv => ?_)
  refine hc s₂ vs E _ S₂ hv fun r t u v kk ob _ hr => ⟨keeps_tr k (keeps_tr k₂ (keeps_push s₂ ob kk)), r, t, u, v, rfl, hr⟩

theorem range1 {x : Str} {a : Expr} {n : Int} (G : C.Good d u) (hx : nsIn (KF C.w) mainGlobals x = some none) (hv : bootBuiltins x = some (.type "range")) (ha : PE C m nw a (vI n)) (hst : ∀ rest, starEach (a :: rest) C.env = (false, eval a C.env) :: starEach rest C.env := by intro _; rfl)
    (hn : x ≠ "__name__" := by decide +kernel) (hk : C.env.kindOf x = some .globalImplicit := by first | kernel_rfl | rfl) (hd : (x == ("__debug__" : Str)) = false := by decide +kernel) :
    ∀ s E, C.St m nw s → wpAny (model pg C.w) C.A (eval (.Call (.Name x p) [a] [] q) C.env) (fun v s' => Keeps s s' ∧ ∃ r t u v', v = .ref r ∧ IsRange s'.heap r 0 n 1 t u v') E s :=
  range_args G hx hv (.cons ha .nil hst) (fun s vs E Q S av h => by
    cases av with
    | cons e av =>
      cases av
      obtain ⟨t, rfl⟩ := e
      exact call_range_1 (h _ _ _ _ _ _ (Heap.get?_push_size _ rfl) (IsRange.new ..))) hn hk hd
theorem range2 {x : Str} {a b : Expr} {n n' : Int} (G : C.Good d u) (hx : nsIn (KF C.w) mainGlobals x = some none) (hv : bootBuiltins x = some (.type "range")) (ha : PE C m nw a (vI n)) (hb : PE C m nw b (vI n'))
    (hst : ∀ rest, starEach (a :: rest) C.env = (false, eval a C.env) :: starEach rest C.env := by intro _; rfl) (hst' : ∀ rest, starEach (b :: rest) C.env = (false, eval b C.env) :: starEach rest C.env := by intro _; rfl)
    (hn : x ≠ "__name__" := by decide +kernel) (hk : C.env.kindOf x = some .globalImplicit := by first | kernel_rfl | rfl) (hd : (x == ("__debug__" : Str)) = false := by decide +kernel) :
    ∀ s E, C.St m nw s → wpAny (model pg C.w) C.A (eval (.Call (.Name x p) [a, b] [] q) C.env) (fun v s' => Keeps s s' ∧ ∃ r t u v', v = .ref r ∧ IsRange s'.heap r n n' 1 t u v') E s :=
  range_args G hx hv (.cons ha (.cons hb .nil hst') hst) (fun s vs E Q S av h => by
    cases av with
    | cons e av =>
      cases av with
      | cons e' av =>
        cases av
        obtain ⟨t, rfl⟩ := e
        obtain ⟨t', rfl⟩ := e'
        exact call_range_2 (h _ _ _ _ _ _ (Heap.get?_push_size _ rfl) (IsRange.new ..))) hn hk hd
theorem range3 {x : Str} {a b c : Expr} {n n' st : Int} (G : C.Good d u) (hx : nsIn (KF C.w) mainGlobals x = some none) (hv : bootBuiltins x = some (.type "range")) (ha : PE C m nw a (vI n)) (hb : PE C m nw b (vI n')) (hc : PE C m nw c (vI st)) (h0 : st ≠ 0) (hl : st.natAbs.log2 < 9000)
    (hst : ∀ rest, starEach (a :: rest) C.env = (false, eval a C.env) :: starEach rest C.env := by intro _; rfl) (hst' : ∀ rest, starEach (b :: rest) C.env = (false, eval b C.env) :: starEach rest C.env := by intro _; rfl) (hst'' : ∀ rest, starEach (c :: rest) C.env = (false, eval c C.env) :: starEach rest C.env := by intro _; rfl)
    (hn : x ≠ "__name__" := by decide +kernel) (hk : C.env.kindOf x = some .globalImplicit := by first | kernel_rfl | rfl) (hd : (x == ("__debug__" : Str)) = false := by decide +kernel) :
    ∀ s E, C.St m nw s → wpAny (model pg C.w) C.A (eval (.Call (.Name x p) [a, b, c] [] q) C.env) (fun v s' => Keeps s s' ∧ ∃ r t u v', v = .ref r ∧ IsRange s'.heap r n n' st t u v') E s :=
  range_args G hx hv (.cons ha (.cons hb (.cons hc .nil hst'') hst') hst) (fun s vs E Q S av h => by
    cases av with
    | cons e av =>
      cases av with
      | cons e' av =>
        cases av with
        | cons e'' av =>
          cases av
          obtain ⟨t, rfl⟩ := e
          obtain ⟨t', rfl⟩ := e'
          obtain ⟨t'', rfl⟩ := e''
          exact call_range_3 h0 (h _ _ _ _ _ _ (Heap.get?_push_size _ rfl) (IsRange.new ..)) (Or.inl (PyProof.noPylong_of_log2 hl))) hn hk hd

theorem PSrc.str {a : Expr} {x : Str} {fixed : Ld} (hh : C.A.handled = none) (ha : PE C m nw a (vS x)) : PSrc C m nw a x.cps.size (SignAt x) fixed := PSrc.mk fun s E S => by
  refine ha.go S fun v s₁ k₁ S₁ z => ?_
  obtain ⟨t, rfl⟩ := z
  have fin : ∀ {ty : String} (hty : ["enumerate", "zip", "dict_itemiterator", "dict_reverseitemiterator", "odict_iterator", "itertools.zip_longest", "itertools.pairwise"].contains ty = false) (W : Walks pg C.w C.A s₁.heap.objs.size [s₁.heap.objs.size] [s₁.heap.objs.size] x.cps.size (SignAt x) (fun i h => h.IsStrIter s₁.heap.objs.size ty x t i)),
      Keeps s { s₁ with heap := s₁.heap.push { cls := .type ty, data := .fields #[.str x t, .int 0 0] } } ∧ ∃ I fp StI, Value.ref s₁.heap.objs.size = .ref I ∧ Walks pg C.w C.A I fp [I] x.cps.size (SignAt x) StI ∧ StI 0 (s₁.heap.push { cls := .type ty, data := .fields #[.str x t, .int 0 0] }) ∧
        s.heap.get? I = none ∧ I ∈ fp ∧ (∀ i h, StI i h → ∃ o, h.get? I = some o ∧ plainIter o) ∧ (∀ b ∈ fp, b ≠ I → (∃ o, C.h₀.get? b = some o) ∨ ∃ o, (b, fun x => x = o) ∈ fixed) ∧ (∀ b ∈ fp, b < (s₁.heap.push { cls := .type ty, data := .fields #[.str x t, .int 0 0] }).objs.size) := by
    intro ty hty W
    refine ⟨keeps_tr k₁ (keeps_push s₁ _ s₁.toks), _, _, _, rfl, W, ⟨_, Heap.get?_push_size _ rfl, rfl, rfl⟩, none_of (keepsH k₁) (Heap.get?_none_of_le (Nat.le_refl _)), by simp, ?_, ?_, ?_⟩
    · rintro i h ⟨o, e, c, _⟩; exact ⟨o, e, _, c, hty⟩
    · intro b hb hne; exact absurd (by simpa using hb) hne
    · intro b hb
      have : b = s₁.heap.objs.size := by simpa using hb
      rw [Heap.size_push, this]; exact Nat.lt_succ_self _
  cases hx : x.cps.all (· < 128)
  · exact wpAny_pyIter_wide hx (fin (by decide) (Walks.strWide hh _ x t))
  · exact wpAny_pyIter_ascii hx (fin (by decide) (Walks.strAscii hh _ x t))


/-- the row of a method's call -/
abbrev McEq (C : Cx) (o : Expr) (name : Str) (apos : Pos) (args : List Expr) (pos : Pos) : Prop :=
  eval (.Call (.Attribute o name apos) args [] pos) C.env = (do
      let ov ← eval o C.env
      standAt apos.atName
      let (f, first) ← holding [ov] (getMethod ov name (do return (← importBound o C.env).getD true))
      callWith pos f first (backTo pos (starEach args C.env)) [])

theorem isPlain {h : Heap} {a : Addr} {vs : List Value} {k : Nat} (e : h.get? a = some (W.listOf vs.toArray k)) : h.PlainList a vs.toArray := ⟨k, e⟩

/-- xs.append(e) -/
theorem s_append {ox e : Expr} {a : Addr} {Ps : List VP} {F : FP} {apos cpos : Pos} (S : C.St m nw s) (ho : PE C m nw ox (vIs (.ref a))) (ha : (a, oL Ps) ∈ nw) (hz : Ps.length ≤ sizeLine) (he : PX C m nw e F)
    (h : ∀ v ext s₂, F v ext → C.St m (ext ++ nw) s₂ → ∃ P nw', P v ∧ Ch a (oL Ps) (oL (Ps ++ [P])) (ext ++ nw) nw' ∧ ∀ s₃, C.St m nw' s₃ → Ex C rest Q s₃)
    (hcall : McEq C ox "append" apos [e] cpos := by first | kernel_rfl | rfl)
    (hst : starEach [e] C.env = [(false, eval e C.env)] := by rfl)
    (hi : interactive C.env = false := by first | kernel_rfl | rfl) (hs : swapsWith (.Call (.Attribute ox "append" apos) [e] [] cpos) none p.line C.env = pure false := by first | kernel_rfl | rfl) :
    Ex C (.Expr (.Call (.Attribute ox "append" apos) [e] [] cpos) p :: rest) Q s := by
  refine ex_cons (wpAny_Expr (MethodCall_ ?_ hcall) hi hs)
  refine ho.go S fun v s₁ k₁ S₁ x => ?_
  have x : v = _ := x
  subst x
  obtain ⟨o, hg, vs, k, rfl, av⟩ := S₁.at ha
  refine getMethod_list_append hg rfl rfl ?_
  rw [hst]
  refine callWith_builtin rfl (Calls.evalArgs_plain (Calls.spliced_cons (he.go S₁ fun v s₂ ext k₂ S₂' S₂ f fr => ?_)))
  refine Calls.spliced_nil ?_
  obtain ⟨P, nw', pv, ch, go⟩ := h v ext s₂ f S₂
  refine wpAny_list_append_plain (isPlain (keeps_get k₂ hg)) (fun h' hp hs' => ?_) (by rw [List.size_toArray, av.length]; exact hz)
  obtain ⟨n, hn⟩ := hp
  have S₃ : C.St m nw' { s₂ with heap := h' } := S₂.ch (k := s₂.toks) ch hs' hn ⟨vs ++ [v], n, by simp, av.snoc pv⟩ (Nat.le_refl _)
  exact go _ S₃
end
end
end Mine

-- part L4
namespace Mine
noncomputable section
section
variable {C : Cx} {m : Str → Option Value} {nw : Ld} {s : Shared} {Q : Flow → Shared → Prop} {rest body : List Stmt} {p q : Pos} {d u : Nat}

theorem PE.repl {o : Expr} {apos cpos p1 p2 : Pos} {k1 k2 : Nat} {x y z : Str} (ho : PE C m nw o (vS x)) (hyz : (y == z) = false) (hb : x.length + (x.length + 1) * z.length ≤ 16777216)
    (hc : McEq C o "replace" apos [.Constant (.str y) k1 p1, .Constant (.str z) k2 p2] cpos := by first | kernel_rfl | rfl) :
    PE C m nw (.Call (.Attribute o "replace" apos) [.Constant (.str y) k1 p1, .Constant (.str z) k2 p2] [] cpos) (vS (Txt.replace x y z)) := PX.mk fun s E S => by
  refine MethodCall_ (ho.go S fun v s₁ k₁ S₁ e => ?_) hc
  obtain ⟨t, rfl⟩ := e
  refine GM.replace (Calls.callWith_builtin rfl (Calls.evalArgs_plain ?_))
  refine Calls.spliced_cons (wpAny_Constant_str (k := k1) (pos := p1) (Calls.spliced_cons (wpAny_Constant_str (k := k2) (pos := p2) (Calls.spliced_nil ?_))))
  have := S₁.tk
  exact SC.replace (by show s₁.toks ≠ 0; omega) (by show s₁.toks + 1 ≠ 0; omega) (by show s₁.toks ≠ s₁.toks + 1; omega) hyz hb fun t' k => ⟨keeps_tr k₁ (keeps_tok s₁ k), [], ⟨⟨_, rfl⟩, rfl⟩, Fresh.nil⟩

theorem strsAre_of {vs : List Value} {ss : List Str} (h : AllP (ss.map vS) vs) : StrsAre vs ss := by
  induction ss generalizing vs with
  | nil => cases h; exact .nil
  | cons x r ih =>
    cases h with
    | cons e h => obtain ⟨t, rfl⟩ := e; exact .cons x t (ih h)
theorem intsAre_of {vs : List Value} {ns : List Int} (h : AllP (ns.map vI) vs) : IntsAre vs ns := by
  induction ns generalizing vs with
  | nil => cases h; exact .nil
  | cons x r ih =>
    cases h with
    | cons e h => obtain ⟨t, rfl⟩ := e; exact .cons x t (ih h)

theorem PE.join {e : Expr} {apos cpos p1 : Pos} {k1 : Nat} {ss : List Str} (he : PN C m nw e (oL (ss.map vS))) (hz : (ss.map (·.length)).sum ≤ 16777216)
    (hst : starEach [e] C.env = [(false, eval e C.env)] := by rfl)
    (hc : McEq C (.Constant (.str (Str.ofString "")) k1 p1) "join" apos [e] cpos := by first | kernel_rfl | rfl) :
    PE C m nw (.Call (.Attribute (.Constant (.str (Str.ofString "")) k1 p1) "join" apos) [e] [] cpos) (vS (Txt.join (Str.ofString "") ss)) := PX.mk fun s E S => by
  refine MethodCall_ (PE.kS.go S fun v s₁ k₁ S₁ e => ?_) hc
  obtain ⟨t, rfl⟩ := e
  refine GM.join ?_
  rw [hst]
  refine Calls.callWith_builtin rfl (Calls.evalArgs_plain (Calls.spliced_cons (he.go S₁ fun v s₂ ext k₂ S₂ S₂' f fr => ?_)))
  obtain ⟨a, rfl, rfl⟩ := f
  obtain ⟨o, ho, vs, kk, rfl, av⟩ := (fr.1 _ (.head _)).2
  refine Calls.spliced_nil (join_list (isList_of ho) (strsAre_of av) ?_ fun t' k => ⟨keeps_tr k₁ (keeps_tr k₂ (keeps_tok s₂ k)), [], ⟨⟨_, rfl⟩, rfl⟩, Fresh.nil⟩)
  show (ss.map (·.length)).sum + ss.length * 0 ≤ 16777216
  omega

theorem PT.eqS {a b : Expr} {x y : Str} (ha : PE C m nw a (vS x)) (hb : PE C m nw b (vS y)) (hm : behindInMarks .Eq b = false := by with_unfolding_all rfl) : PT C m nw (.Compare a [.Eq] [b] p) (x.cps.toList == y.cps.toList) :=
  PT.cmp ha hb (fun s _ _ _ ⟨_, e⟩ ⟨_, e'⟩ E Q h => by subst e e'; exact PySem.P.eq_str (h s.toks)) hm
theorem PT.neS {a b : Expr} {x y : Str} (ha : PE C m nw a (vS x)) (hb : PE C m nw b (vS y)) (hm : behindInMarks .NotEq b = false := by with_unfolding_all rfl) : PT C m nw (.Compare a [.NotEq] [b] p) (x.cps.toList != y.cps.toList) :=
  PT.cmp ha hb (fun s _ _ _ ⟨_, e⟩ ⟨_, e'⟩ E Q h => by subst e e'; exact PySem.P.ne_str (h s.toks)) hm
theorem PT.neI {a b : Expr} {x y : Int} (ha : PE C m nw a (vI x)) (hb : PE C m nw b (vI y)) (hm : behindInMarks .NotEq b = false := by with_unfolding_all rfl) : PT C m nw (.Compare a [.NotEq] [b] p) (x != y) :=
  PT.cmp ha hb (fun s _ _ _ ⟨_, e⟩ ⟨_, e'⟩ E Q h => by subst e e'; exact PyProof.Rows.ne_int (h _)) hm
theorem PT.inS {a b : Expr} {c : Nat} {x : Str} (ha : PE C m nw a (vS ⟨#[c]⟩)) (hb : PE C m nw b (vS x)) (hm : behindInMarks .In b = false := by with_unfolding_all rfl) : PT C m nw (.Compare a [.In] [b] p) (decide (c ∈ x.cps.toList)) :=
  PT.cmp ha hb (fun s _ _ _ ⟨_, e⟩ ⟨_, e'⟩ E Q h => by subst e e'; exact PySem.P.in_str (by rw [StrLaws.found_one]; exact h s.toks)) hm

/-- the frame within a comprehension -/
abbrev Cx.comp (C : Cx) (scope : Scope) (cl : List (Str × Addr)) (L : Addr) (s₀ : Shared) : Cx := ⟨C.w, C.A, compEnvC scope cl L C.env, C.h₀, s₀⟩
theorem Cx.comp_good {scope : Scope} {cl : List (Str × Addr)} {L : Addr} {s₀ : Shared} (G : C.Good d u) (h : scope.kind = .function) : (C.comp scope cl L s₀).Good d u :=
  ⟨G.gi, G.ok, h, G.glob, G.bi⟩

theorem paired_get {α β : Type} {F : α → β → Prop} : ∀ {l : List α} {l' : List β}, Paired F l l' → l'.length = l.length ∧ ∀ (i : Nat) (a : α) (b : β), l[i]? = some a → l'[i]? = some b → F a b
  | _, _, .nil => ⟨rfl, fun i a b e => by simp at e⟩
  | _, _, .cons h r => by
    obtain ⟨hl, hg⟩ := paired_get r
    refine ⟨by simp [hl], fun i a b e e' => ?_⟩
    cases i with
    | zero => simp at e e'; subst e e'; exact h
    | succ i => simp at e e'; exact hg i a b e e'

section
variable {α : Type} {items : List α} {R : α → Value → Prop} {f : α → VP} {elt iter : Expr} {x : Str} {px : Pos} {scope : Scope} {cl : List (Str × Addr)} {pos : Pos}

/-- the element of a comprehension -/
def Elt (C : Cx) (m : Str → Option Value) (nw : Ld) (scope : Scope) (cl : List (Str × Addr)) (x : Str) (elt : Expr) (items : List α) (R : α → Value → Prop) (f : α → VP) : Prop :=
  ∀ a L v m' s₀, a ∈ items → R a v → m' x = some v → PE (C.comp scope cl L s₀) m' nw elt (f a)

theorem quiet_of {n : Nat} {P : Nat → Value → Prop} {s₂ : Shared} {I : Addr} (S₂ : C.St m nw s₂) (hI : ∀ p ∈ nw, p.1 ≠ I) (hI0 : C.h₀.get? I = none) (hR : ∀ a a' v, R a v → R a' v → a = a') (hP : ∀ i v, P i v → ∃ a, items[i]? = some a ∧ R a v) (he : Elt C m nw scope cl x elt items R f) :
    QuietOnC pg C.w C.A C.env scope cl x [] elt [I] P (fun _ => true) (fun v y => ∃ a, R a v ∧ f a y) s₂ := by
  refine ⟨fun L i v s₃ m₃ E' hL hPi hns hm hk ht => ?_, fun L i v s₃ m₃ E' hL hPi _ hns hm hk ht => ?_⟩
  · rw [List.forIn_nil]; exact wpAny_pure ⟨rfl, keeps_refl _⟩
  · obtain ⟨a, ha, r⟩ := hP i v hPi
    have S₃ : (C.comp scope cl L s₃).St m₃ nw s₃ := by
      refine ⟨⟨_, _, rfl⟩, ⟨hns, fun b o e => hk b o (by simp only [List.mem_singleton]; rintro rfl; rw [hI0] at e; cases e) (S₂.fr.keep b o e), ?_⟩, fun p hp => ?_, S₂.nd, Nat.lt_of_lt_of_le S₂.tk ht⟩
      · obtain ⟨o, _, _, ho, _⟩ := S₂.fr.ns
        exact Nat.le_trans S₂.fr.above (Nat.le_trans (Nat.le_of_lt (Heap.lt_size ho)) hL)
      · obtain ⟨⟨o, e, q⟩, h1, h2⟩ := S₂.led p hp
        exact ⟨⟨o, hk _ _ (by simpa using hI p hp) e, q⟩, Nat.ne_of_lt (Nat.lt_of_lt_of_le (Heap.lt_size e) hL), h2⟩
    refine wpAny_mono ((he a L v m₃ s₃ (List.mem_of_getElem? ha) r hm).run s₃ E' S₃) (fun y s₄ z => ?_) fun _ _ z => z
    obtain ⟨k, _, ⟨py, rfl⟩, _⟩ := z
    exact ⟨⟨a, r, py⟩, k⟩

theorem comp_all {n : Nat} {P : Nat → Value → Prop} {vs : List Value} {ys : List Value} (hn : n = items.length) (hR : ∀ a a' v, R a v → R a' v → a = a') (hP : ∀ i v, P i v → ∃ a, items[i]? = some a ∧ R a v)
    (hl : vs.length = n) (hv : ∀ j v, vs[j]? = some v → P j v) (hF : Paired (fun v y => ∃ a, R a v ∧ f a y) (vs.filter fun _ => true) ys) : AllP (items.map f) ys := by
  rw [List.filter_eq_self.mpr (fun _ _ => rfl)] at hF
  obtain ⟨h1, h2⟩ := paired_get hF
  refine AllP.of_map (by rw [h1, hl, hn]) fun i a y e e' => ?_
  have hi : i < vs.length := by rw [← h1]; exact (List.getElem?_eq_some_iff.mp e').1
  have ev := List.getElem?_eq_getElem hi
  obtain ⟨a', ha', r'⟩ := hP i _ (hv i _ ev)
  rw [e] at ha'; cases ha'
  obtain ⟨a'', r'', fy⟩ := h2 i _ _ ev e'
  rw [hR _ _ _ r' r'']; exact fy

theorem PN.comp {n : Nat} {P : Nat → Value → Prop} {fixed : Ld} (hsrc : PSrc C m nw iter n P fixed) (hn : n = items.length) (hz : n ≤ sizeLine) (hR : ∀ a a' v, R a v → R a' v → a = a') (hP : ∀ i v, P i v → ∃ a, items[i]? = some a ∧ R a v)
    (hclos : closureFor scope C.env = pure cl) (he : Elt C m nw scope cl x elt items R f)
    (hcell : ∀ y ∈ scope.names, y.2 ≠ .cell := by decide +kernel) (hkind : scope.kind = .function := by first | kernel_rfl | rfl)
    (hnames : ∀ y ∈ scope.names, y.2 = .local → scope.names.lookup y.1 = some .local := by decide +kernel) (hx : scope.names.lookup x = some .local := by first | kernel_rfl | rfl) (hs : ∀ x, foldedSetIterable iter C.env x = pure x := by intro _; rfl) :
    PN C m nw (.ListComp elt [⟨.Name x px, iter, [], 0⟩] scope pos) (oL (items.map f)) := PX.mk fun s E S => by
  refine wpAny_ListComp_free (elt := elt) (iter := iter) (x := x) (px := px) (ifs := []) (scope := scope) (cl := cl) (pos := pos) (fun _ => true) (fun v y => ∃ a, R a v ∧ f a y) hclos hcell hkind hnames hx (wpAny_mono (wpAny_toks (hsrc.run s E S)) (fun xv s₁ z => wpAny_mono (wpAny_toks z.2) (fun it s₂ z' => ?_) fun _ _ z => z.2) fun _ _ z => z.2) hs
  have tk₂ : s.toks ≤ s₂.toks := Nat.le_trans z.1 z'.1
  obtain ⟨k, I, fp, StI, rfl, W, hst, hI, hIfp, hob, hfp, hlt⟩ := z'.2
  have S₂ := S.keeps k tk₂
  refine ⟨I, fp, [I], n, P, StI, rfl, W, hz, hst, hlt, quiet_of (n := n) S₂ (fun p hp e => ?_) (none_of S.fr.keep hI) hR hP he, fun D h' tk ys vs hD hl hpl hlen hv hF hk => ?_⟩
  · obtain ⟨⟨o, e', _⟩, _⟩ := S.led p hp
    rw [e, hI] at e'; cases e'
  · obtain ⟨kk, hpl⟩ := hpl
    have kp : Keeps s { s₂ with heap := h', toks := tk } := by
      obtain ⟨h₂, t₂, rfl, hk₂⟩ := k
      exact ⟨h', tk, rfl, fun b o e => hk b o (by simp only [List.mem_singleton]; rintro rfl; rw [hI] at e; cases e) (hk₂ b o e)⟩
    refine ⟨kp, _, ⟨D, rfl, rfl⟩, fun p hp => ?_, by simp⟩
    rw [List.mem_singleton.mp hp]
    exact ⟨none_of (keepsH k) hD, _, hpl, ys.toList, kk, by simp, comp_all hn hR hP hlen hv hF⟩

theorem s_assignComp {y : Str} {py : Pos} {n : Nat} {P : Nat → Value → Prop} {fixed : Ld} (S : C.St m nw s) (hsrc : PSrc C m nw iter n P fixed) (hn : n = items.length) (hz : n ≤ sizeLine) (hR : ∀ a a' v, R a v → R a' v → a = a') (hP : ∀ i v, P i v → ∃ a, items[i]? = some a ∧ R a v)
    (hclos : closureFor scope C.env = pure cl) (he : Elt C m nw scope cl x elt items R f)
    (h : ∀ D s₂, C.St (upd m y (.ref D)) ((D, oL (items.map f)) :: nw) s₂ → Ex C rest Q s₂)
    (hsw : swapsWith (.ListComp elt [⟨.Name x px, iter, [], 0⟩] scope pos) (some (.Name y py)) p.line C.env = pure true := by first | kernel_rfl | rfl)
    (hkk : C.env.scope.kind = .function := by first | kernel_rfl | rfl) (hy : C.env.kindOf y = some .local := by first | kernel_rfl | rfl)
    (hcell : ∀ y ∈ scope.names, y.2 ≠ .cell := by decide +kernel) (hkind : scope.kind = .function := by first | kernel_rfl | rfl)
    (hnames : ∀ y ∈ scope.names, y.2 = .local → scope.names.lookup y.1 = some .local := by decide +kernel) (hx : scope.names.lookup x = some .local := by first | kernel_rfl | rfl) (hs : ∀ x, foldedSetIterable iter C.env x = pure x := by intro _; rfl) :
    Ex C (.Assign [.Name y py] (.ListComp elt [⟨.Name x px, iter, [], 0⟩] scope pos) p :: rest) Q s := by
  refine ex_cons (wpAny_with_toks (Nat.le_refl _) (wpAny_Assign_ListComp_free (elt := elt) (iter := iter) (x := x) (px := px) (ifs := []) (scope := scope) (cl := cl) (pos := pos) (fun _ => true) (fun v y => ∃ a, R a v ∧ f a y) hsw hclos hcell hkind hnames hx hy (by rw [hkk]; rfl)
    (wpAny_mono (wpAny_toks (hsrc.run s _ S)) (fun xv s₁ z => wpAny_mono (wpAny_toks z.2) (fun it s₂ z' => ?_) fun _ _ z _ => z.2) fun _ _ z _ => z.2) hs))
  have tk₂ : s.toks ≤ s₂.toks := Nat.le_trans z.1 z'.1
  obtain ⟨k, I, fp, StI, rfl, W, hst, hI, hIfp, hob, hfp, hlt⟩ := z'.2
  have S₂ := S.keeps k tk₂
  have hLI : C.env.locals ≠ I := by
    obtain ⟨o, _, _, ho, _⟩ := S.fr.ns
    rintro e; rw [e, hI] at ho; cases ho
  refine ⟨I, fp, [I], n, P, StI, m, rfl, W, hz, hst, hlt, by simpa using hLI, S₂.fr.ns, quiet_of (n := n) S₂ (fun p hp e => ?_) (none_of S.fr.keep hI) hR hP he, fun D h' tk ys vs hD hl hpl hlen hv hF hns hk htk => ?_⟩
  · obtain ⟨⟨o, e', _⟩, _⟩ := S.led p hp
    rw [e, hI] at e'; cases e'
  · obtain ⟨kk, hpl⟩ := hpl
    have hI0 : C.h₀.get? I = none := none_of S.fr.keep hI
    have hL0 : C.h₀.get? C.env.locals = none := Heap.get?_none_of_le S.fr.above
    have hI₁ : ∀ p ∈ nw, p.1 ≠ I := fun p hp e => by
      obtain ⟨⟨o, e', _⟩, _⟩ := S.led p hp
      rw [e, hI] at e'; cases e'
    have hD0 : s.heap.get? D = none := none_of (keepsH k) hD
    refine h D _ ⟨let ⟨_, _, e⟩ := S₂.same; ⟨h', tk, by rw [e]⟩, ⟨hns, fun b o e => hk b o (fun q => by rw [q, hL0] at e; cases e) (by simp only [List.mem_singleton]; rintro rfl; rw [hI0] at e; cases e) (S₂.fr.keep b o e), S₂.fr.above⟩, fun p hp => ?_, ?_, Nat.lt_of_lt_of_le S.tk htk⟩
    · rcases List.mem_cons.mp hp with rfl | hp
      · have hDL : D ≠ C.env.locals := by
          obtain ⟨o, _, _, ho, _⟩ := S.fr.ns
          intro e; rw [e] at hD0; rw [hD0] at ho; cases ho
        exact ⟨⟨_, hpl, ys.toList, kk, by simp, comp_all hn hR hP hlen hv hF⟩, hDL, none_of S.fr.keep hD0⟩
      · obtain ⟨⟨o, e, q⟩, r⟩ := S₂.led p hp
        exact ⟨⟨o, hk _ _ r.1 (by simpa using hI₁ p hp) e, q⟩, r⟩
    · rw [List.map_cons, List.nodup_cons]
      refine ⟨fun hm => ?_, S.nd⟩
      obtain ⟨p, hp, e⟩ := List.mem_map.mp hm
      obtain ⟨⟨o, e', _⟩, _⟩ := S.led p hp
      rw [e] at e'; rw [hD0] at e'; cases e'
end
end
end
end Mine

-- part L5
namespace Mine
noncomputable section

def oCell (v : Option Value) : OP := fun o => o.data = .cell v

section
variable {C : Cx} {m : Str → Option Value} {nw : Ld} {s : Shared} {Q : Flow → Shared → Prop} {rest body : List Stmt} {p q : Pos} {d u : Nat}

theorem PE.cell {x : Str} {c : Addr} {v : Value} (hm : (c, oCell (some v)) ∈ nw) (hc : C.env.cells.lookup x = some c) (hk : C.env.scope.kind = .function := by first | kernel_rfl | rfl) (hl : C.env.kindOf x = some .cell := by first | kernel_rfl | rfl)
    (hd : (x == ("__debug__" : Str)) = false := by decide +kernel) : PE C m nw (.Name x p) (vIs v) := PX.mk fun s E S =>
  wpAny_Name (wpAny_loadName_cell hk hl hc (S.at hm) ⟨keeps_refl s, [], ⟨rfl, rfl⟩, Fresh.nil⟩) hd
theorem PE.free {x : Str} {c : Addr} {v : Value} (hm : (c, oCell (some v)) ∈ nw) (hc : C.env.cells.lookup x = some c) (hk : C.env.scope.kind = .function := by first | kernel_rfl | rfl) (hl : C.env.kindOf x = some .free := by first | kernel_rfl | rfl)
    (hd : (x == ("__debug__" : Str)) = false := by decide +kernel) (hn : (x == ("__classdict__" : Str)) = false := by decide +kernel) : PE C m nw (.Name x p) (vIs v) := PX.mk fun s E S =>
  wpAny_Name (wpAny_loadName_free hk hl hc (S.at hm) ⟨keeps_refl s, [], ⟨rfl, rfl⟩, Fresh.nil⟩ hn) hd

theorem st_cell {x : Str} {c : Addr} {v₀ : Option Value} {v : Value} {nw' : Ld} {Q : Unit → Shared → Prop} {E : Value → Shared → Prop} (S : C.St m nw s) (hch : Ch c (oCell v₀) (oCell (some v)) nw nw') (hc : C.env.cells.lookup x = some c)
    (h : ∀ s', C.St m nw' s' → Q () s')
    (hk : C.env.scope.kind = .function := by first | kernel_rfl | rfl) (hl : C.env.kindOf x = some .cell := by first | kernel_rfl | rfl) :
    wpAny (model pg C.w) C.A (storeName C.env x v) Q E s :=
  wpAny_storeName_cell hk hl hc (S.at hch.mem) fun h' ⟨o, ho, hd⟩ hs => h _ (by have := S.ch (k := s.toks) hch hs ho hd (Nat.le_refl _); exact this)

theorem s_assignCell {x : Str} {e : Expr} {F : FP} {c : Addr} {v₀ : Option Value} (S : C.St m nw s) (he : PX C m nw e F) (hc : C.env.cells.lookup x = some c)
    (h : ∀ v ext, F v ext → ∃ nw', Ch c (oCell v₀) (oCell (some v)) (ext ++ nw) nw' ∧ ∀ s₂, C.St m nw' s₂ → Ex C rest Q s₂)
    (hk : C.env.scope.kind = .function := by first | kernel_rfl | rfl) (hl : C.env.kindOf x = some .cell := by first | kernel_rfl | rfl) (hs : swapsWith e (some (.Name x q)) p.line C.env = pure false := by first | kernel_rfl | rfl) :
    Ex C (.Assign [.Name x q] e p :: rest) Q s := by
  refine ex_cons (wpAny_Assign_Name (he.go S fun v s₁ ext k _ S₁ f fr => ?_) hs)
  obtain ⟨nw', ch, g⟩ := h v ext f
  exact st_cell S₁ ch hc (fun s₂ S₂ => g s₂ S₂) hk hl

noncomputable def envAtC (w : World) (f L : Addr) : Env :=
  match (KF w).lookup f with
  | some o => match o.data with
    | .func fd => envOfC fd.name fd.scope L f fd.code
    | _ => envOf "" { kind := .function, names := [], isGenerator := false, isCoroutine := false } L f .none
  | none => envOf "" { kind := .function, names := [], isGenerator := false, isCoroutine := false } L f .none
theorem envAtC_eq {w : World} {f L : Addr} {oc : Value} {od : Option Addr} {osl : Array (Option Value)} {name : Str} {params : Arguments} {body : List Stmt} {scope : Scope} {pm cd doc : Value}
    (ho : (KF w).lookup f = some ⟨oc, od, .func (docDef name params body scope pm cd doc), osl⟩) : envAtC w f L = envOfC name scope L f cd := by
  unfold envAtC; rw [ho]; rfl
noncomputable def CFC (w : World) (f : Addr) (A : Around) (s : Shared) (L : Addr) : Cx := ⟨w, A.deeper (envAtC w f L), envAtC w f L, s.heap, s⟩
theorem fnCallC {w : World} {A : Around} {s : Shared} {f : Addr} {oc : Value} {od : Option Addr} {osl : Array (Option Value)} {name : Str} {params : Arguments} {body : List Stmt} {scope : Scope} {pm cd doc : Value} {args : List Value} {binds : List (Str × Value)} {F : FP}
    (hk : Ok A (d + 1) (u + 3)) (g : GI w s.heap) (ht : 0 < s.toks) (ho : (KF w).lookup f = some ⟨oc, od, .func (docDef name params body scope pm cd doc), osl⟩) (hcd : codeIn (KF w) cd name = true)
    (hbind : bindArgs (docDef name params body scope pm cd doc) ⟨args, []⟩ = pure binds)
    (hkind : ∀ n, ∀ x ∈ binds, scope.names.lookup x.1 = some .local ∨ (scope.names.lookup x.1 = some .cell ∧ ((cellsFrom n scope.names []).lookup x.1).isSome = true))
    (hnd : ((cellsFrom 0 scope.names []).map (·.1)).Nodup) (hnd2 : ∀ n, ((cellsFrom n scope.names []).map (·.2)).Nodup)
    (h : ∀ L s₁, (CFC w f A s L).Good d u →
      (CFC w f A s L).St (bindL (envAtC w f L).kindOf binds fun _ => none) ((cellsFrom (L + 1) scope.names []).map fun q => (q.2, oCell (bindC (envAtC w f L).kindOf binds (fun _ => none) q.1))) s₁ →
      Ex (CFC w f A s L) body (fun fl s' => ∃ v, fl = .ret v ∧ Keeps s s' ∧ ∃ ext, F v ext ∧ Fresh s.heap s'.heap ext) s₁)
    (hco : scope.isCoroutine = false := by rfl) (hgen : scope.isGenerator = false := by rfl) (hkk : scope.kind = .function := by rfl) :
    codeAny (model pg w) A (.call (.ref f) ⟨args, []⟩) (RetX s F) s := by
  refine codeAny_call_function hk.room (g.K _ _ ho) rfl hco hgen rfl (codeRec_of g.K hcd) ?_
  rw [hbind]
  refine wpAny_pure (wpAny_with_toks (Nat.le_refl _) (wpAny_newFunctionEnv_cells hkk (hkind _) fun env' he s' x htk => ?_))
  subst he
  refine ⟨g.nolimit.keeps x.toInCall.keep, codeAny_func ?_⟩
  have hk₁ := x.toInCall.keep
  have hns := x.toInCall.ns
  obtain ⟨h₁, tk, rfl, _⟩ := x.done
  have hcell : ∀ q ∈ cellsFrom (s.heap.objs.size + 1) scope.names [], h₁.IsCell q.2 (bindC (envOfC name scope s.heap.objs.size f cd).kindOf binds (fun _ => none) q.1) ∧ s.heap.objs.size < q.2 := fun q hm =>
    ⟨x.cell q.1 q.2 (lookup_of_mem_nodup (cellsFrom_names scope.names 0 (s.heap.objs.size + 1) [] [] rfl ▸ hnd) hm), x.above q.1 q.2 hm⟩
  have e : CFC w f A s s.heap.objs.size = ⟨w, A.deeper (envOfC name scope s.heap.objs.size f cd), envOfC name scope s.heap.objs.size f cd, s.heap, s⟩ := by unfold CFC; rw [envAtC_eq ho]
  have h := h s.heap.objs.size
  rw [e, envAtC_eq ho] at h
  refine wpAny_mono (h { s with heap := h₁, toks := tk } ⟨g, hk.deeper _, hkk, rfl, rfl⟩ ⟨⟨h₁, tk, rfl⟩, ⟨hns, hk₁, Nat.le_refl _⟩, fun p hp => ?_, ?_, Nat.lt_of_lt_of_le ht htk⟩).run (fun fl s' z => ?_) fun _ _ z => z.elim
  · obtain ⟨q, hq, rfl⟩ := List.mem_map.mp hp
    obtain ⟨h1, h2⟩ := hcell q hq
    exact ⟨h1, Nat.ne_of_gt h2, Heap.get?_none_of_le (Nat.le_of_lt h2)⟩
  · rw [List.map_map]
    exact hnd2 _
  · obtain ⟨v, rfl, z⟩ := z
    exact ⟨v, rfl, z⟩

/-- names of a tuple of targets -/
inductive Nms : List Expr → List Str → Prop
  | nil : Nms [] []
  | cons {x : Str} {px : Pos} {r : List Expr} {xs : List Str} : Nms r xs → Nms (.Name x px :: r) (x :: xs)
def updL (m : Str → Option Value) : List Str → List Value → Str → Option Value
  | x :: xs, v :: vs => updL (upd m x v) xs vs
  | _, _ => m

theorem inOrder {elts : List Expr} {xs : List Str} (hn : Nms elts xs) : ∀ {vs : List Value} {m : Str → Option Value} {s : Shared} {Q : Shared → Prop}, C.St m nw s → xs.length = vs.length → (∀ x ∈ xs, C.env.kindOf x = some .local) → C.env.scope.kind = .function →
    (∀ s', C.St (updL m xs vs) nw s' → Q s') →
    wpAny (model pg C.w) C.A (assignInOrder ((assignEach elts C.env).map (·.2)) vs) (fun _ s' => Q s') (fun _ _ => False) s := by
  induction hn with
  | nil =>
    intro vs m s Q S hl hk hkk h
    cases vs with
    | nil => exact wpAny_pure (h s S)
    | cons _ _ => simp at hl
  | cons hr ih =>
    intro vs m s Q S hl hk hkk h
    cases vs with
    | nil => simp at hl
    | cons v vs =>
      rename_i x px r xs
      refine wpAny_bind (m := holding (v :: vs).tail (assign (.Name x px) C.env v)) (f := fun _ => assignInOrder ((assignEach r C.env).map (·.2)) vs) ?_
      refine wpAny_holding (wpAny_assign_Name (st_name S (fun s' S' => ?_) hkk (hk x (.head _))))
      exact ih S' (by simpa using hl) (fun y hy => hk y (.tail _ hy)) hkk h

theorem isTup_of {h : Heap} {a : Addr} {vs : List Value} {k : Nat} (e : h.get? a = some { cls := .type "tuple", data := .seq vs.toArray k }) : IsTup h a vs.toArray := ⟨_, e, rfl, k, rfl⟩
theorem starless {elts : List Expr} {xs : List Str} {env : Env} (hn : Nms elts xs) : (assignEach elts env).length = xs.length ∧ (assignEach elts env).findIdx? (·.1) = none := by
  induction hn with
  | nil => exact ⟨rfl, rfl⟩
  | cons hr ih =>
    rename_i x px r xs
    obtain ⟨a, b⟩ := ih
    refine ⟨by show (assignEach r env).length + 1 = _; rw [a]; rfl, ?_⟩
    show List.findIdx? _ ((false, assign (.Name x px) env) :: assignEach r env) = none
    rw [List.findIdx?_cons, b]; rfl

/-- a tuple's places go into names -/
theorem as_tup {elts : List Expr} {k j : Nat} {pos : Pos} {t : Addr} {vs : List Value} {Q : Shared → Prop} (xs : List Str) (S : C.St m nw s) (hh : C.A.handled = none) (ht : s.heap.get? t = some { cls := .type "tuple", data := .seq vs.toArray j }) (hn : Nms elts xs)
    (hl : xs.length = vs.length) (hk : (xs.all fun x => C.env.kindOf x == some .local) = true) (hkk : C.env.scope.kind = .function) (h : ∀ s', C.St (updL m xs vs) nw s' → Q s') : As C (.Tuple elts k pos) (.ref t) Q s := by
  obtain ⟨h1, h2⟩ := starless (env := C.env) hn
  refine ⟨assign_Tuple_tuple hh (isTup_of ht) (by rw [h1, List.size_toArray]; exact hl) h2 fun h' he => ?_⟩
  have S' : C.St m nw { s with heap := h' } := S.keeps ⟨h', s.toks, rfl, fun b o e => he b o (Nat.ne_of_lt (Heap.lt_size e)) e⟩ (Nat.le_refl _)
  exact inOrder hn S' hl (fun x hx => by have := List.all_eq_true.mp hk x hx; simpa using this) hkk h
theorem as_name {x : Str} {px : Pos} {v : Value} {Q : Shared → Prop} (S : C.St m nw s) (h : ∀ s', C.St (upd m x v) nw s' → Q s')
    (hk : C.env.scope.kind = .function := by first | kernel_rfl | rfl) (hl : C.env.kindOf x = some .local := by first | kernel_rfl | rfl) : As C (.Name x px) v Q s :=
  ⟨wpAny_assign_Name (st_name S h hk hl)⟩
theorem as_cell {x : Str} {px : Pos} {v : Value} {c : Addr} {v₀ : Option Value} {nw' : Ld} {Q : Shared → Prop} (S : C.St m nw s) (hch : Ch c (oCell v₀) (oCell (some v)) nw nw') (hc : C.env.cells.lookup x = some c) (h : ∀ s', C.St m nw' s' → Q s')
    (hk : C.env.scope.kind = .function := by first | kernel_rfl | rfl) (hl : C.env.kindOf x = some .cell := by first | kernel_rfl | rfl) : As C (.Name x px) v Q s :=
  ⟨wpAny_assign_Name (st_cell S hch hc h hk hl)⟩

/-- a, b = e -/
theorem s_tuple {elts : List Expr} {k : Nat} {tp : Pos} {e : Expr} {F : FP} (S : C.St m nw s) (he : PX C m nw e F)
    (h : ∀ v ext s₂, F v ext → C.St m (ext ++ nw) s₂ → As C (.Tuple elts k tp) v (fun s₃ => Ex C rest Q s₃) s₂)
    (hs : swapsWithSole [.Tuple elts k tp] e p.line C.env = pure false := by first | kernel_rfl | rfl) (hw : swappedStores [.Tuple elts k tp] e C.env = pure none := by first | kernel_rfl | rfl) :
    Ex C (.Assign [.Tuple elts k tp] e p :: rest) Q s := by
  refine ex_cons (Assign_Tuple (he.go S fun v s₁ ext k _ S₁ f fr => ?_) hs hw)
  exact wpAny_mono (h v ext s₁ f S₁).run (fun _ s₂ z => z) fun _ _ z => z

theorem PE.neg {a : Expr} {x : Int} (ha : PE C m nw a (vI x)) : PE C m nw (.UnaryOp .USub a p) (vI (-x)) := PX.mk fun s E S =>
  wpAny_UnaryOp (one S ha fun s₂ v S₂ ⟨t, e⟩ => TX.tok fun E Q h => by subst e; exact PyProof.Rows.neg_int (h _ _ ⟨_, rfl⟩))

/-- x += e on an int, on a text -/
theorem s_augI {x : Str} {px : Pos} {e : Expr} {i j : Int} {t : Tok} (S : C.St m nw s) (hx : m x = some (.int i t)) (he : PE C m nw e (vI j)) (h : ∀ t s₂, C.St (upd m x (.int (i + j) t)) nw s₂ → Ex C rest Q s₂)
    (hk : C.env.scope.kind = .function := by first | kernel_rfl | rfl) (hl : C.env.kindOf x = some .local := by first | kernel_rfl | rfl) : Ex C (.AugAssign (.Name x px) .Add e p :: rest) Q s := by
  refine ex_cons (wpAny_AugAssign_Name (wpAny_loadName_local hk hl S.fr.ns hx (he.go S fun v s₁ k S₁ z => ?_)))
  obtain ⟨t', rfl⟩ := z
  refine wpAny_with_toks (Nat.le_refl _) (PySem.P.iadd_int fun htk => ?_)
  exact st_name (S₁.keeps (keeps_tok s₁ _) htk) (fun s₂ S₂ => h _ s₂ S₂) hk hl
end
end
end Mine

-- part L6
namespace Mine
noncomputable section

def oNs (m : Str → Option Value) : OP := fun o => ∃ es ep, o.data = .dict es ep ∧ StrKeys es ∧ ∀ name, nsFind es name = m name
theorem oNs.of {h : Heap} {a : Addr} {m : Str → Option Value} (x : h.Ns a m) : ∃ o, h.get? a = some o ∧ oNs m o := let ⟨o, es, ep, e, r⟩ := x; ⟨o, e, es, ep, r⟩
theorem oNs.ns {h : Heap} {a : Addr} {m : Str → Option Value} (x : ∃ o, h.get? a = some o ∧ oNs m o) : h.Ns a m := let ⟨o, e, es, ep, r⟩ := x; ⟨o, es, ep, e, r⟩

section
variable {C C2 : Cx} {m m₂ : Str → Option Value} {nw nw' : Ld} {s s' : Shared} {Q : Flow → Shared → Prop} {rest body : List Stmt} {p q : Pos} {d u : Nat}

theorem Cx.St.above (S : C.St m nw s) : C.h₀.objs.size ≤ s.heap.objs.size := by
  obtain ⟨o, _, _, ho, _⟩ := S.fr.ns
  exact Nat.le_trans S.fr.above (Nat.le_of_lt (Heap.lt_size ho))
theorem Cx.St.lt (S : C.St m nw s) : C.env.locals < s.heap.objs.size := by
  obtain ⟨o, _, _, ho, _⟩ := S.fr.ns
  exact Heap.lt_size ho
/-- a new frame is entered: what lay in the ledger stays there, with the old frame -/
theorem Cx.St.push (S : C.St m nw s) (hh : C2.h₀ = C.h₀) (hs : C2.s₀ = C.s₀) {h₁ : Heap} {k : Nat} (hn : h₁.Ns C2.env.locals m₂) (hk : ∀ b o, s.heap.get? b = some o → h₁.get? b = some o) (hL : s.heap.objs.size ≤ C2.env.locals) (ht : s.toks ≤ k) :
    C2.St m₂ ((C.env.locals, oNs m) :: nw) { s with heap := h₁, toks := k } := by
  refine ⟨by rw [hs]; exact let ⟨_, _, e⟩ := S.same; ⟨h₁, k, by rw [e]⟩, ⟨hn, fun b o e => hk b o (S.fr.keep b o (hh ▸ e)), by rw [hh]; exact Nat.le_trans S.above hL⟩, fun p hp => ?_, ?_, Nat.lt_of_lt_of_le S.tk ht⟩
  · rcases List.mem_cons.mp hp with rfl | hp
    · obtain ⟨o, e, r⟩ := oNs.of S.fr.ns
      exact ⟨⟨o, hk _ _ e, r⟩, Nat.ne_of_lt (Nat.lt_of_lt_of_le S.lt hL), by rw [hh]; exact Heap.get?_none_of_le S.fr.above⟩
    · obtain ⟨⟨o, e, r⟩, _, h0⟩ := S.led p hp
      exact ⟨⟨o, hk _ _ e, r⟩, Nat.ne_of_lt (Nat.lt_of_lt_of_le (Heap.lt_size e) hL), by rw [hh]; exact h0⟩
  · rw [List.map_cons, List.nodup_cons]
    refine ⟨fun hm => ?_, S.nd⟩
    obtain ⟨p, hp, e⟩ := List.mem_map.mp hm
    exact (S.led p hp).2.1 e
theorem Cx.St.pop (S : C2.St m₂ ((C.env.locals, oNs m) :: nw') s) (hh : C2.h₀ = C.h₀) (hs : C2.s₀ = C.s₀) (hL : C.h₀.objs.size ≤ C.env.locals) : C.St m nw' s := by
  have nd := S.nd
  rw [List.map_cons, List.nodup_cons] at nd
  refine ⟨by rw [← hs]; exact S.same, ⟨oNs.ns (S.led _ (.head _)).1, fun b o e => S.fr.keep b o (hh ▸ e), hL⟩, fun p hp => ?_, nd.2, S.tk⟩
  obtain ⟨a, _, h0⟩ := S.led p (.tail _ hp)
  exact ⟨a, fun e => nd.1 (by rw [← e]; exact List.mem_map_of_mem (f := (·.1)) hp), hh ▸ h0⟩

/-- an expression that may change the ledger -/
structure ME (C : Cx) (m : Str → Option Value) (nw : Ld) (e : Expr) (F : Value → Ld → Prop) : Prop where
  run : ∀ s, C.St m nw s → wpAny (model pg C.w) C.A (eval e C.env) (fun v s' => ∃ nw', F v nw' ∧ C.St m nw' s') (fun _ _ => False) s
theorem ME.go {e : Expr} {F : Value → Ld → Prop} {E : Value → Shared → Prop} {Q : Value → Shared → Prop} (h : ME C m nw e F) (S : C.St m nw s)
    (hq : ∀ v nw' s', F v nw' → C.St m nw' s' → Q v s') : wpAny (model pg C.w) C.A (eval e C.env) Q E s :=
  wpAny_mono (h.run s S) (fun v s' ⟨nw', f, S'⟩ => hq v nw' s' f S') fun _ _ z => z.elim
theorem ME.mono {e : Expr} {F F' : Value → Ld → Prop} (h : ME C m nw e F) (hf : ∀ v x, F v x → F' v x) : ME C m nw e F' :=
  ⟨fun s S => h.go S fun v nw' s' f S' => ⟨nw', hf _ _ f, S'⟩⟩
theorem PX.me {e : Expr} {F : FP} {F' : Value → Ld → Prop} (h : PX C m nw e F) (hf : ∀ v ext, F v ext → F' v (ext ++ nw)) : ME C m nw e F' :=
  ⟨fun s S => PX.go h S fun v s' ext _ _ S' f _ => ⟨_, hf v ext f, S'⟩⟩

def RetM (C : Cx) (m : Str → Option Value) (F : Value → Ld → Prop) : Result → Shared → Prop := fun r s' => ∃ v nw', r = .ok (.ret v) ∧ F v nw' ∧ C.St m nw' s'

/-- how a body of a function ends -/
abbrev endM (C C2 : Cx) (m : Str → Option Value) (F : Value → Ld → Prop) : Flow → Shared → Prop := fun fl s' => ∃ v m₂ nw', (fl = .ret v ∨ (fl = .next ∧ v = .none)) ∧ F v nw' ∧ C2.St m₂ ((C.env.locals, oNs m) :: nw') s'

noncomputable def CM (C : Cx) (f L : Addr) : Cx := ⟨C.w, C.A.deeper (envAt C.w f L), envAt C.w f L, C.h₀, C.s₀⟩
noncomputable def CMC (C : Cx) (f L : Addr) : Cx := ⟨C.w, C.A.deeper (envAtC C.w f L), envAtC C.w f L, C.h₀, C.s₀⟩
theorem fnCallM {f : Addr} {oc : Value} {od : Option Addr} {osl : Array (Option Value)} {name : Str} {params : Arguments} {body : List Stmt} {scope : Scope} {pm cd doc : Value} {args : List Value} {binds : List (Str × Value)} {F : Value → Ld → Prop}
    (G : C.Good (d + 1) (u + 3)) (S : C.St m nw s) (ho : (KF C.w).lookup f = some ⟨oc, od, .func (docDef name params body scope pm cd doc), osl⟩) (hcd : codeIn (KF C.w) cd name = true)
    (hbind : bindArgs (docDef name params body scope pm cd doc) ⟨args, []⟩ = pure binds) (hloc : ∀ x ∈ binds, scope.names.lookup x.1 = some .local)
    (h : ∀ L s₁, (CM C f L).Good d u → (CM C f L).St (fun x => binds.reverse.lookup x) ((C.env.locals, oNs m) :: nw) s₁ →
      Ex (CM C f L) body (endM C (CM C f L) m F) s₁)
    (hco : scope.isCoroutine = false := by rfl) (hgen : scope.isGenerator = false := by rfl) (hkk : scope.kind = .function := by rfl) (hcell : ∀ x ∈ scope.names, x.2 ≠ .cell := by decide +kernel) :
    codeAny (model pg C.w) C.A (.call (.ref f) ⟨args, []⟩) (RetM C m F) s := by
  have g := S.gi G
  refine call_plain_ret G.ok.room (g.K _ _ ho) rfl g.nolimit (codeRec_of g.K hcd) hbind hloc (fun h₁ F => ?_) hco hgen hkk hcell
  have S₁ := S.push (C2 := ⟨C.w, C.A.deeper (envOf name scope s.heap.objs.size f cd), envOf name scope s.heap.objs.size f cd, C.h₀, C.s₀⟩) rfl rfl F.ns F.keep (Nat.le_refl _) (Nat.le_add_right s.toks binds.length)
  have e : CM C f s.heap.objs.size = ⟨C.w, C.A.deeper (envOf name scope s.heap.objs.size f cd), envOf name scope s.heap.objs.size f cd, C.h₀, C.s₀⟩ := by unfold CM; rw [envAt_eq ho]
  have h := h s.heap.objs.size
  rw [e] at h
  refine wpAny_mono (h _ ⟨G.gi, G.ok.deeper _, hkk, rfl, rfl⟩ S₁).run (fun fl s' x => ?_) fun _ _ x => x
  obtain ⟨v, m₂, nw', rfl | ⟨rfl, rfl⟩, f, S'⟩ := x
  · exact ⟨_, nw', rfl, f, S'.pop rfl rfl S.fr.above⟩
  · exact ⟨_, nw', rfl, f, S'.pop rfl rfl S.fr.above⟩

theorem fnCallMC {f : Addr} {oc : Value} {od : Option Addr} {osl : Array (Option Value)} {name : Str} {params : Arguments} {body : List Stmt} {scope : Scope} {pm cd doc : Value} {args : List Value} {binds : List (Str × Value)} {F : Value → Ld → Prop}
    (G : C.Good (d + 1) (u + 3)) (S : C.St m nw s) (ho : (KF C.w).lookup f = some ⟨oc, od, .func (docDef name params body scope pm cd doc), osl⟩) (hcd : codeIn (KF C.w) cd name = true)
    (hbind : bindArgs (docDef name params body scope pm cd doc) ⟨args, []⟩ = pure binds)
    (hkind : ∀ n, ∀ x ∈ binds, scope.names.lookup x.1 = some .local ∨ (scope.names.lookup x.1 = some .cell ∧ ((cellsFrom n scope.names []).lookup x.1).isSome = true))
    (hnd : ((cellsFrom 0 scope.names []).map (·.1)).Nodup) (hnd2 : ∀ n, ((cellsFrom n scope.names []).map (·.2)).Nodup)
    (h : ∀ L s₁, (CMC C f L).Good d u →
      (CMC C f L).St (bindL (envAtC C.w f L).kindOf binds fun _ => none)
        ((cellsFrom (L + 1) scope.names []).map (fun q => (q.2, oCell (bindC (envAtC C.w f L).kindOf binds (fun _ => none) q.1))) ++ (C.env.locals, oNs m) :: nw) s₁ →
      Ex (CMC C f L) body (endM C (CMC C f L) m F) s₁)
    (hco : scope.isCoroutine = false := by rfl) (hgen : scope.isGenerator = false := by rfl) (hkk : scope.kind = .function := by rfl) :
    codeAny (model pg C.w) C.A (.call (.ref f) ⟨args, []⟩) (RetM C m F) s := by
  have g := S.gi G
  refine codeAny_call_function G.ok.room (g.K _ _ ho) rfl hco hgen rfl (codeRec_of g.K hcd) ?_
  rw [hbind]
  refine wpAny_pure (wpAny_with_toks (Nat.le_refl _) (wpAny_newFunctionEnv_cells hkk (hkind _) fun env' he s' x htk => ?_))
  subst he
  refine ⟨g.nolimit.keeps x.toInCall.keep, codeAny_func ?_⟩
  have hk₁ := x.toInCall.keep
  have hns := x.toInCall.ns
  obtain ⟨h₁, tk, rfl, _⟩ := x.done
  have hcell : ∀ q ∈ cellsFrom (s.heap.objs.size + 1) scope.names [], h₁.IsCell q.2 (bindC (envOfC name scope s.heap.objs.size f cd).kindOf binds (fun _ => none) q.1) ∧ s.heap.objs.size < q.2 := fun q hm =>
    ⟨x.cell q.1 q.2 (lookup_of_mem_nodup (cellsFrom_names scope.names 0 (s.heap.objs.size + 1) [] [] rfl ▸ hnd) hm), x.above q.1 q.2 hm⟩
  have S₁ := S.push (C2 := ⟨C.w, C.A.deeper (envOfC name scope s.heap.objs.size f cd), envOfC name scope s.heap.objs.size f cd, C.h₀, C.s₀⟩) rfl rfl hns hk₁ (Nat.le_refl _) htk
  have S₂ : (⟨C.w, C.A.deeper (envOfC name scope s.heap.objs.size f cd), envOfC name scope s.heap.objs.size f cd, C.h₀, C.s₀⟩ : Cx).St (bindL (envOfC name scope s.heap.objs.size f cd).kindOf binds fun _ => none)
        ((cellsFrom (s.heap.objs.size + 1) scope.names []).map (fun q => (q.2, oCell (bindC (envOfC name scope s.heap.objs.size f cd).kindOf binds (fun _ => none) q.1))) ++ (C.env.locals, oNs m) :: nw) { s with heap := h₁, toks := tk } := by
    refine ⟨S₁.same, S₁.fr, fun p hp => ?_, ?_, S₁.tk⟩
    · rcases List.mem_append.mp hp with hp | hp
      · obtain ⟨q, hq, rfl⟩ := List.mem_map.mp hp
        obtain ⟨h1, h2⟩ := hcell q hq
        exact ⟨h1, Nat.ne_of_gt h2, Heap.get?_none_of_le (Nat.le_trans S.above (Nat.le_of_lt h2))⟩
      · exact S₁.led p hp
    · rw [List.map_append]
      refine nodup_app (by rw [List.map_map]; exact hnd2 _) S₁.nd fun x hx hy => ?_
      rw [List.map_map] at hx
      obtain ⟨q, hq, rfl⟩ := List.mem_map.mp hx
      have h2 : s.heap.objs.size < q.2 := (hcell q hq).2
      rw [List.map_cons] at hy
      rcases List.mem_cons.mp hy with e | hy
      · have e : q.2 = C.env.locals := e
        exact Nat.lt_irrefl _ (Nat.lt_trans h2 (e ▸ S.lt))
      · obtain ⟨p, hp, e⟩ := List.mem_map.mp hy
        have e : p.1 = q.2 := e
        obtain ⟨⟨o, ho, _⟩, _⟩ := S.led p hp
        have h3 := Heap.lt_size ho
        exact Nat.lt_irrefl _ (Nat.lt_trans h2 (e ▸ h3))
  have e : CMC C f s.heap.objs.size = ⟨C.w, C.A.deeper (envOfC name scope s.heap.objs.size f cd), envOfC name scope s.heap.objs.size f cd, C.h₀, C.s₀⟩ := by unfold CMC; rw [envAtC_eq ho]
  have h := h s.heap.objs.size
  rw [e, envAtC_eq ho] at h
  refine wpAny_mono (h _ ⟨G.gi, G.ok.deeper _, hkk, rfl, rfl⟩ S₂).run (fun fl s' z => ?_) fun _ _ z => z.elim
  obtain ⟨v, m₂, nw', rfl | ⟨rfl, rfl⟩, f, S'⟩ := z
  · exact ⟨_, nw', rfl, f, S'.pop rfl rfl S.fr.above⟩
  · exact ⟨_, nw', rfl, f, S'.pop rfl rfl S.fr.above⟩

theorem s_assignM {x : Str} {e : Expr} {F : Value → Ld → Prop} (S : C.St m nw s) (he : ME C m nw e F)
    (h : ∀ v nw' s₂, F v nw' → C.St (upd m x v) nw' s₂ → Ex C rest Q s₂)
    (hk : C.env.scope.kind = .function := by first | kernel_rfl | rfl) (hl : C.env.kindOf x = some .local := by first | kernel_rfl | rfl) (hs : swapsWith e (some (.Name x q)) p.line C.env = pure false := by first | kernel_rfl | rfl) :
    Ex C (.Assign [.Name x q] e p :: rest) Q s := by
  refine ex_cons (wpAny_Assign_Name (he.go S fun v nw' s₁ f S₁ => ?_) hs)
  exact st_name S₁ (fun s₂ S₂ => h v nw' s₂ f S₂) hk hl
theorem s_exprM {e : Expr} {F : Value → Ld → Prop} (S : C.St m nw s) (he : ME C m nw e F) (h : ∀ v nw' s₂, F v nw' → C.St m nw' s₂ → v = .none ∧ Ex C rest Q s₂)
    (hi : interactive C.env = false := by first | kernel_rfl | rfl) (hs : swapsWith e none p.line C.env = pure false := by first | kernel_rfl | rfl) : Ex C (.Expr e p :: rest) Q s :=
  ex_cons (wpAny_Expr (he.go S fun v nw' s₁ f S₁ => by obtain ⟨rfl, g⟩ := h v nw' s₁ f S₁; exact g) hi hs)
theorem s_retM {e : Expr} {F : Value → Ld → Prop} (S : C.St m nw s) (he : ME C m nw e F) (h : ∀ v nw' s₁, F v nw' → C.St m nw' s₁ → Q (.ret v) s₁) : Ex C (.Return (some e) p :: rest) Q s :=
  ex_cons (wpAny_Return_some (he.go S fun v nw' s₁ f S₁ => h v nw' s₁ f S₁))
theorem s_tupleM {elts : List Expr} {k : Nat} {tp : Pos} {e : Expr} {F : Value → Ld → Prop} (S : C.St m nw s) (he : ME C m nw e F)
    (h : ∀ v nw' s₂, F v nw' → C.St m nw' s₂ → As C (.Tuple elts k tp) v (fun s₃ => Ex C rest Q s₃) s₂)
    (hs : swapsWithSole [.Tuple elts k tp] e p.line C.env = pure false := by first | kernel_rfl | rfl) (hw : swappedStores [.Tuple elts k tp] e C.env = pure none := by first | kernel_rfl | rfl) :
    Ex C (.Assign [.Tuple elts k tp] e p :: rest) Q s := by
  refine ex_cons (Assign_Tuple (he.go S fun v nw' s₁ f S₁ => ?_) hs hw)
  exact wpAny_mono (h v nw' s₁ f S₁).run (fun _ s₂ z => z) fun _ _ z => z

theorem ME.callF {x : Str} {f : Addr} {es : List Expr} {Ps : List VP} {F : Value → Ld → Prop} (G : C.Good d u) (hx : nsIn (KF C.w) mainGlobals x = some (some (.ref f))) (ha : PAs C m nw es Ps)
    (hc : ∀ s vs, C.St m nw s → AllP Ps vs → codeAny (model pg C.w) C.A (.call (.ref f) ⟨vs, []⟩) (RetM C m F) s) (hl : C.env.kindOf x = some .globalImplicit := by first | kernel_rfl | rfl) (hf : isFn (KF C.w) f = true := by kernel_rfl) (hd : (x == ("__debug__" : Str)) = false := by decide +kernel) :
    ME C m nw (.Call (.Name x p) es [] q) F := ⟨fun s S => by
  refine wpAny_Call_NameR ((PE.glob G hx hl hd).go S fun v s₁ k S₁ z => ?_)
  have z : v = _ := z
  subst z
  obtain ⟨o, fd, ho, hfd⟩ := isFn.of hf
  refine callWith_function (o := o) (fd := fd) (ha.args S₁ fun vs s₂ k₂ S₂ hv => ?_)
  refine ⟨⟨(S₂.gi G).K _ _ ho, hfd⟩, wpAny_call (codeAny_mono (hc s₂ vs S₂ hv) fun r s₃ z => ?_)⟩
  obtain ⟨v, nw', rfl, f, S₃⟩ := z
  exact ⟨nw', f, S₃⟩⟩

/-- while -/
theorem s_while {test : Expr} (Inv : Nat → (Str → Option Value) → Ld → Prop) (n : Nat) (S : C.St m nw s) (h0 : Inv n m nw)
    (hturn : ∀ k m₁ nw₁ s₁, Inv k m₁ nw₁ → C.St m₁ nw₁ s₁ → ∃ b, PT C m₁ nw₁ test b ∧
      (b = true → ∀ s₂, C.St m₁ nw₁ s₂ → Ex C body (fun fl s₃ => match fl with | .next | .cont => ∃ k' m₂ nw₂, k' < k ∧ Inv k' m₂ nw₂ ∧ C.St m₂ nw₂ s₃ | .ret v => Q (.ret v) s₃ | .brk => Ex C rest Q s₃) s₂) ∧
      (b = false → ∀ s₂, C.St m₁ nw₁ s₂ → Ex C rest Q s₂)) :
    Ex C (.While test body [] p :: rest) Q s := by
  refine ex_cons (wpAny_While (codeAny_whileLoop (fun k s' => ∃ m₁ nw₁, Inv k m₁ nw₁ ∧ C.St m₁ nw₁ s') (fun k s' ⟨m₁, nw₁, hi, S'⟩ => ?_) n ⟨m, nw, h0, S⟩))
  obtain ⟨b, ht, hy, hn⟩ := hturn k m₁ nw₁ s' hi S'
  refine wpAny_mono (wpAny_toks (ht.run s' _ S')) (fun r s₁ z => ?_) fun _ _ z => z.2
  obtain ⟨tk, kk, rfl⟩ := z
  cases r with
  | true =>
    refine wpAny_mono (hy rfl s₁ (S'.keeps kk tk)).run (fun fl s₃ z => ?_) fun _ _ z => z.elim
    cases fl with
    | next => obtain ⟨k', m₂, nw₂, a, b, c⟩ := z; exact ⟨k', a, m₂, nw₂, b, c⟩
    | cont => obtain ⟨k', m₂, nw₂, a, b, c⟩ := z; exact ⟨k', a, m₂, nw₂, b, c⟩
    | brk => exact z
    | ret v => exact z
  | false =>
    exact wpAny_execs_nil (hn rfl s₁ (S'.keeps kk tk))
end
end
end Mine

-- part L7
namespace Mine
noncomputable section

abbrev vY (ks : List Int) : VP := fun v => ∃ b t, v = .bytes b t ∧ KBw.bInts b = ks

section
variable {C : Cx} {m : Str → Option Value} {nw : Ld} {s : Shared} {Q : Flow → Shared → Prop} {rest body : List Stmt} {p q : Pos} {d u : Nat}

theorem PE.kY {x : List UInt8} {ks : List Int} {k : Nat} (h : x.map (fun c => (c.toNat : Int)) = ks := by rfl) : PE C m nw (.Constant (.bytes x) k p) (vY ks) :=
  PE.kB.imp fun v ⟨t, e⟩ => ⟨_, t, e, h⟩
theorem TX.one1 {t : Sem Value} {P : VP} {s : Shared} (h : ∀ E (Q : Value → Shared → Prop), (∀ v h' k, (∀ b o, s.heap.get? b = some o → h'.get? b = some o) → P v → Q v { s with heap := h', toks := k }) → wpAny (model pg C.w) C.A t Q E s) : TX C t (pv P) s :=
  fun E => h E _ fun v h' k hk p => ⟨⟨h', k, rfl, hk⟩, [], ⟨p, rfl⟩, Fresh.nil⟩
/-- one new object at the end of the heap, or further on -/
theorem TX.new {t : Sem Value} {O : OP} {s : Shared} (h : ∀ E (Q : Value → Shared → Prop), (∀ a o h' k, s.heap.objs.size ≤ a → (∀ b o, s.heap.get? b = some o → h'.get? b = some o) → h'.get? a = some o → O o → Q (.ref a) { s with heap := h', toks := k }) → wpAny (model pg C.w) C.A t Q E s) : TX C t (pn O) s :=
  fun E => h E _ fun a o h' k hs hk ho hO => ⟨⟨h', k, rfl, hk⟩, _, ⟨a, rfl, rfl⟩, fun p hp => by rw [List.mem_singleton.mp hp]; exact ⟨Heap.get?_none_of_le hs, o, ho, hO⟩, by simp⟩

theorem PE.addY {a b : Expr} {x y : List Int} (ha : PE C m nw a (vY x)) (hb : PE C m nw b (vY y)) (hz : x.length + y.length ≤ 16777216) : PE C m nw (.BinOp a .Add b p) (vY (x ++ y)) :=
  PX.bin ha hb fun s _ _ _ ⟨b, t, e, hb⟩ ⟨b', t', e', hb'⟩ => TX.tok fun E Q h => by subst e e'; exact KBy.add_bytes (by rw [← KBw.ints_length b, ← KBw.ints_length b', hb, hb']; exact hz) fun t' k => h _ _ ⟨_, _, rfl, KBw.ints_app hb hb'⟩

theorem PE.sliceY {a b c : Expr} {p q : Pos} {x : List Int} {i j : Int} (ha : PE C m nw a (vY x)) (hb : PE C m nw b (vI i)) (hc : PE C m nw c (vI j)) (hz : x.length ≤ 16777216)
    (ht : ∀ o r, letTemporaryGo a o r = pure () := by intro _ _; rfl) :
    PE C m nw (.Subscript a (.Slice (some b) (some c) none q) p) (vY ((x.drop (clipAt x.length i)).take (clipAt x.length j - clipAt x.length i))) :=
  PX.mk fun s E S => Subscript_Slice (ha.go S (fun v s₁ k₁ S₁ x₁ => by
    obtain ⟨bs, t, rfl, hx⟩ := x₁
    refine wpAny_Slice ?_
    rw [evalPart_some]
    refine hb.go S₁ fun v s₂ k₂ S₂ x₂ => ?_
    obtain ⟨u, rfl⟩ := x₂
    rw [evalPart_some]
    refine hc.go S₂ fun v s₃ k₃ S₃ x₃ => ?_
    obtain ⟨u', rfl⟩ := x₃
    rw [evalPart_none]
    refine wpAny_pure ?_
    refine ⟨"bytes", _, FB.slot_bytes_getitem.lookup, typeIs_bytes _ _ _, getItem_meets (typeIs_bytes _ _ _) (by decide) FB.slot_bytes_getitem FB.entry_bytes_getitem (FB.args_bytes_getitem_2 _ _) (KBc.meets_slice2 bs t _ (.int i u) (.int j u'))
      ⟨Heap.IsSliceOf.new _ _ _ _, Nat.le_trans (KBc.size_picked_le bs _ _) (by rw [← KBw.ints_length bs, hx, sizeLine_eq]; exact hz), fun t' k => ?_⟩⟩
    refine ⟨keeps_tr k₁ (keeps_tr k₂ (keeps_tr k₃ (keeps_push s₃ _ k))), [], ⟨⟨_, _, rfl, ?_⟩, rfl⟩, Fresh.nil⟩
    rw [KBc.ints_picked hx]
    rfl)) ht

theorem PSrc.bytes {a : Expr} {x : List Int} {fixed : Ld} (hh : C.A.handled = none) (ha : PE C m nw a (vY x)) : PSrc C m nw a x.length (fun i v => ∃ k, x[i]? = some k ∧ vI k v) fixed := PSrc.mk fun s E S => by
  refine ha.go S fun v s₁ k₁ S₁ z => ?_
  obtain ⟨b, t, rfl, hx⟩ := z
  have hl : x.length = b.size := by rw [← hx]; exact KBw.ints_length b
  show wpAny _ _ (pyIter (.bytes b t)) _ _ _
  refine KBw.pyIter_bytes ?_
  refine ⟨keeps_tr k₁ (keeps_push s₁ _ s₁.toks), _, _, _, rfl, by
      have W := KBw.walks (prog := pg) (w := C.w) hh s₁.heap.objs.size b t
      rw [hl]
      exact { W with item := fun i s Q E hi st hQ => W.item i s Q E hi st fun v h' tk ⟨c, u, e, e'⟩ st' => hQ v h' tk ⟨c.toNat, by rw [← hx]; exact KBw.ints_get e, u, e'⟩ st' },
    ?_, none_of (keepsH k₁) (Heap.get?_none_of_le (Nat.le_refl _)), by simp, ?_, ?_, ?_⟩
  · exact ⟨_, Heap.get?_push_size _ rfl, rfl, rfl⟩
  · rintro i h ⟨o, e, c, _⟩; exact ⟨o, e, _, c, by decide⟩
  · intro b hb hne; exact absurd (by simpa using hb) hne
  · intro b hb
    have : b = s₁.heap.objs.size := by simpa using hb
    show b < (s₁.heap.push _).objs.size
    rw [Heap.size_push, this]; exact Nat.lt_succ_self _

theorem PE.abs {x : Str} {a : Expr} {i : Int} (G : C.Good d u) (hx : nsIn (KF C.w) mainGlobals x = some none) (hv : bootBuiltins x = some (.builtin "abs")) (ha : PE C m nw a (vI i))
    (hst : ∀ rest, starEach (a :: rest) C.env = (false, eval a C.env) :: starEach rest C.env := by intro _; rfl)
    (hn : x ≠ "__name__" := by decide +kernel) (hk : C.env.kindOf x = some .globalImplicit := by first | kernel_rfl | rfl) (hd : (x == ("__debug__" : Str)) = false := by decide +kernel) : PE C m nw (.Call (.Name x p) [a] [] q) (vI (if i < 0 then -i else i)) :=
  PX.callB G hx hv (.cons ha .nil hst) (fun s vs S av => TX.tok fun E Q h => by
    cases av with
    | cons e av => cases av; obtain ⟨t, rfl⟩ := e; exact call_abs_int fun u tk => h _ _ ⟨_, rfl⟩) hn hk hd
theorem PE.int {x : Str} {a : Expr} {i : Int} (G : C.Good d u) (hx : nsIn (KF C.w) mainGlobals x = some none) (hv : bootBuiltins x = some (.type "int")) (ha : PE C m nw a (vI i))
    (hst : ∀ rest, starEach (a :: rest) C.env = (false, eval a C.env) :: starEach rest C.env := by intro _; rfl)
    (hn : x ≠ "__name__" := by decide +kernel) (hk : C.env.kindOf x = some .globalImplicit := by first | kernel_rfl | rfl) (hd : (x == ("__debug__" : Str)) = false := by decide +kernel) : PE C m nw (.Call (.Name x p) [a] [] q) (vI i) :=
  PX.callT G hx hv (.cons ha .nil hst) (fun s vs S av => TX.tok fun E Q h => by
    cases av with
    | cons e av => cases av; obtain ⟨t, rfl⟩ := e; exact call_int_int (h _ s.toks ⟨_, rfl⟩)) hn hk hd
theorem PE.chr {x : Str} {a : Expr} {i : Int} (G : C.Good d u) (hx : nsIn (KF C.w) mainGlobals x = some none) (hv : bootBuiltins x = some (.builtin "chr")) (ha : PE C m nw a (vI i)) (h0 : 0 ≤ i) (h1 : i ≤ 1114111)
    (hst : ∀ rest, starEach (a :: rest) C.env = (false, eval a C.env) :: starEach rest C.env := by intro _; rfl)
    (hn : x ≠ "__name__" := by decide +kernel) (hk : C.env.kindOf x = some .globalImplicit := by first | kernel_rfl | rfl) (hd : (x == ("__debug__" : Str)) = false := by decide +kernel) : PE C m nw (.Call (.Name x p) [a] [] q) (vS ⟨#[i.toNat]⟩) :=
  PX.callB G hx hv (.cons ha .nil hst) (fun s vs S av => TX.tok fun E Q h => by
    cases av with
    | cons e av => cases av; obtain ⟨t, rfl⟩ := e; exact chr_of_range h0 h1 (h _ _ ⟨_, rfl⟩)) hn hk hd
theorem PE.ord {x : Str} {a : Expr} {c : Nat} (G : C.Good d u) (hx : nsIn (KF C.w) mainGlobals x = some none) (hv : bootBuiltins x = some (.builtin "ord")) (ha : PE C m nw a (vS ⟨#[c]⟩))
    (hst : ∀ rest, starEach (a :: rest) C.env = (false, eval a C.env) :: starEach rest C.env := by intro _; rfl)
    (hn : x ≠ "__name__" := by decide +kernel) (hk : C.env.kindOf x = some .globalImplicit := by first | kernel_rfl | rfl) (hd : (x == ("__debug__" : Str)) = false := by decide +kernel) : PE C m nw (.Call (.Name x p) [a] [] q) (vI c) :=
  PX.callB G hx hv (.cons ha .nil hst) (fun s vs S av => TX.tok fun E Q h => by
    cases av with
    | cons e av => cases av; obtain ⟨t, rfl⟩ := e; exact PySem.P.ord_of_char (h _ _ ⟨_, rfl⟩)) hn hk hd
theorem PE.min {x : Str} {a b : Expr} {i j : Int} (G : C.Good d u) (hx : nsIn (KF C.w) mainGlobals x = some none) (hv : bootBuiltins x = some (.builtin "min")) (ha : PE C m nw a (vI i)) (hb : PE C m nw b (vI j))
    (hst : ∀ rest, starEach (a :: rest) C.env = (false, eval a C.env) :: starEach rest C.env := by intro _; rfl) (hst' : ∀ rest, starEach (b :: rest) C.env = (false, eval b C.env) :: starEach rest C.env := by intro _; rfl)
    (hn : x ≠ "__name__" := by decide +kernel) (hk : C.env.kindOf x = some .globalImplicit := by first | kernel_rfl | rfl) (hd : (x == ("__debug__" : Str)) = false := by decide +kernel) : PE C m nw (.Call (.Name x p) [a, b] [] q) (vI (if j < i then j else i)) :=
  PX.callB G hx hv (.cons ha (.cons hb .nil hst') hst) (fun s vs S av => TX.one1 fun E Q h => by
    cases av with
    | cons e av => cases av with
      | cons e' av => cases av; obtain ⟨t, rfl⟩ := e; obtain ⟨t', rfl⟩ := e'; exact min_two_ints G.ok.handled fun h' tk hk => h _ _ _ hk (by split <;> exact ⟨_, rfl⟩)) hn hk hd
theorem PN.divmod {x : Str} {a b : Expr} {i j : Int} (G : C.Good d u) (hx : nsIn (KF C.w) mainGlobals x = some none) (hv : bootBuiltins x = some (.builtin "divmod")) (ha : PE C m nw a (vI i)) (hb : PE C m nw b (vI j)) (h0 : j ≠ 0) (hl : j.natAbs.log2 < 9000)
    (hst : ∀ rest, starEach (a :: rest) C.env = (false, eval a C.env) :: starEach rest C.env := by intro _; rfl) (hst' : ∀ rest, starEach (b :: rest) C.env = (false, eval b C.env) :: starEach rest C.env := by intro _; rfl)
    (hn : x ≠ "__name__" := by decide +kernel) (hk : C.env.kindOf x = some .globalImplicit := by first | kernel_rfl | rfl) (hd : (x == ("__debug__" : Str)) = false := by decide +kernel) : PN C m nw (.Call (.Name x p) [a, b] [] q) (oT [vI (i.fdiv j), vI (i.fmod j)]) :=
  PX.callB G hx hv (.cons ha (.cons hb .nil hst') hst) (fun s vs S av => TX.new fun E Q h => by
    cases av with
    | cons e av => cases av with
      | cons e' av =>
        cases av; obtain ⟨t, rfl⟩ := e; obtain ⟨t', rfl⟩ := e'
        exact divmod_int h0 (h _ _ _ _ (Nat.le_refl _) (fun b o e => Heap.get?_push_of_some _ e) (Heap.get?_push_size _ rfl) ⟨[_, _], 0, rfl, .cons ⟨_, rfl⟩ (.cons ⟨_, rfl⟩ .nil)⟩) (Or.inl (PyProof.noPylong_of_log2 hl))) hn hk hd

theorem PT.truthI {x : Str} {i : Int} (ha : PE C m nw (.Name x p) (vI i)) : PT C m nw (.Name x p) (i != 0) := PT.mk fun s E S =>
  isTrue_plain (ha.go S fun v s₁ k S₁ ⟨t, e⟩ => by subst e; exact PySem.P.truthy_int ⟨k, rfl⟩)
theorem PT.leI {a b : Expr} {x y : Int} (ha : PE C m nw a (vI x)) (hb : PE C m nw b (vI y)) (hm : behindInMarks .LtE b = false := by with_unfolding_all rfl) : PT C m nw (.Compare a [.LtE] [b] p) (decide (x ≤ y)) :=
  PT.cmp ha hb (fun s _ _ _ ⟨_, e⟩ ⟨_, e'⟩ E Q h => by subst e e'; exact PySem.P.le_int (h s.toks)) hm
theorem PT.gtI {a b : Expr} {x y : Int} (ha : PE C m nw a (vI x)) (hb : PE C m nw b (vI y)) (hm : behindInMarks .Gt b = false := by with_unfolding_all rfl) : PT C m nw (.Compare a [.Gt] [b] p) (decide (y < x)) :=
  PT.cmp ha hb (fun s _ _ _ ⟨_, e⟩ ⟨_, e'⟩ E Q h => by subst e e'; exact PyProof.Rows.gt_int (h s.toks)) hm
theorem PT.or2 {a b : Expr} {r r' : Bool} (ha : PT C m nw a r) (hb : PT C m nw b r') : PT C m nw (.BoolOp .Or [a, b] p) (r || r') := PT.mk fun s E S => by
  refine isTrue_or (wpAny_mono (wpAny_toks (ha.run s E S)) (fun c s₁ z => ?_) fun _ _ z => z.2)
  obtain ⟨tk, k, rfl⟩ := z
  cases c with
  | true => exact ⟨k, rfl⟩
  | false =>
    refine isTrue_or (wpAny_mono (hb.run s₁ E (S.keeps k tk)) (fun c s₂ z => ?_) fun _ _ z => z)
    obtain ⟨k₂, rfl⟩ := z
    cases c with
    | true => exact ⟨keeps_tr k k₂, rfl⟩
    | false => exact isTrue_or_nil ⟨keeps_tr k k₂, rfl⟩
theorem PT.and2 {a b : Expr} {r r' : Bool} (ha : PT C m nw a r) (hb : r = true → PT C m nw b r') : PT C m nw (.BoolOp .And [a, b] p) (r && r') := PT.mk fun s E S => by
  refine isTrue_and (wpAny_mono (wpAny_toks (ha.run s E S)) (fun c s₁ z => ?_) fun _ _ z => z.2)
  obtain ⟨tk, k, rfl⟩ := z
  cases c with
  | false => exact ⟨k, rfl⟩
  | true =>
    refine isTrue_and (wpAny_mono ((hb rfl).run s₁ E (S.keeps k tk)) (fun c s₂ z => ?_) fun _ _ z => z)
    obtain ⟨k₂, rfl⟩ := z
    cases c with
    | false => exact ⟨keeps_tr k k₂, rfl⟩
    | true => exact isTrue_and_nil ⟨keeps_tr k k₂, rfl⟩

/-- xs.insert(0, e) -/
theorem s_insert0 {ox e : Expr} {a : Addr} {Ps : List VP} {P : VP} {nw' : Ld} {k : Nat} {apos cpos p1 : Pos} (S : C.St m nw s) (ho : PE C m nw ox (vIs (.ref a))) (hch : Ch a (oL Ps) (oL (P :: Ps)) nw nw') (hz : Ps.length ≤ sizeLine) (he : PE C m nw e P)
    (h : ∀ s₃, C.St m nw' s₃ → Ex C rest Q s₃)
    (hcall : McEq C ox "insert" apos [.Constant (.int 0) k p1, e] cpos := by first | kernel_rfl | rfl)
    (hst : starEach [.Constant (.int 0) k p1, e] C.env = [(false, eval (.Constant (.int 0) k p1) C.env), (false, eval e C.env)] := by rfl)
    (hi : interactive C.env = false := by first | kernel_rfl | rfl) (hs : swapsWith (.Call (.Attribute ox "insert" apos) [.Constant (.int 0) k p1, e] [] cpos) none p.line C.env = pure false := by first | kernel_rfl | rfl) :
    Ex C (.Expr (.Call (.Attribute ox "insert" apos) [.Constant (.int 0) k p1, e] [] cpos) p :: rest) Q s := by
  refine ex_cons (wpAny_Expr (MethodCall_ ?_ hcall) hi hs)
  refine ho.go S fun v s₁ k₁ S₁ x => ?_
  have x : v = _ := x
  subst x
  obtain ⟨o, hg, vs, kk, rfl, av⟩ := S₁.at hch.mem
  refine getMethod_builtin ⟨_, hg, rfl⟩ PySem.F.plainAttrs_list PySem.F.slot_list_insert PySem.F.type_list_insert (fun a e => by cases e; exact ⟨_, hg, rfl⟩) ?_
  rw [hst]
  refine callWith_builtin rfl (Calls.evalArgs_plain (Calls.spliced_cons ((PE.kI (k := k) (p := p1)).go S₁ fun v s₂ k₂ S₂ e₂ => ?_)))
  obtain ⟨t, rfl⟩ := e₂
  refine Calls.spliced_cons (he.go S₂ fun v s₃ k₃ S₃ pv => Calls.spliced_nil ?_)
  have hg₃ := keeps_get k₃ (keeps_get k₂ hg)
  refine call_meets PySem.F.slot_list_insert ⟨_, hg₃, rfl⟩ PySem.F.entry_list_insert (PySem.F.args_list_insert_3 _ _ _) (PySem.AutoSeq1.list_insert_list_int_val_1 a _ kk 0 t v (by decide) (by rw [List.size_toArray, av.length]; exact hz)) ⟨hg₃, ?_⟩
  have e : ∀ xs : List Value, (xs.toArray.extract 0 (min (Int.toNat 0) xs.toArray.size)).push v ++ xs.toArray.extract (min (Int.toNat 0) xs.toArray.size) = (v :: xs).toArray := by intro xs; simp
  have hl : (s₃.heap.update a (Obj.mapSeq fun xs => have k := if (0:Int) < 0 then ((0:Int) + (xs.size : Int)).toNat else min (Int.toNat 0) xs.size; (xs.extract 0 k).push v ++ xs.extract k)).get? a = some (W.listOf (v :: vs).toArray (kk + 1)) := by
    have := IsL.update hg₃ (fun xs => have k := if (0:Int) < 0 then ((0:Int) + (xs.size : Int)).toNat else min (Int.toNat 0) xs.size; (xs.extract 0 k).push v ++ xs.extract k)
    refine this.trans ?_
    show some ({ cls := .type "list", data := .seq ((vs.toArray.extract 0 (min (Int.toNat 0) vs.toArray.size)).push v ++ vs.toArray.extract (min (Int.toNat 0) vs.toArray.size)) (if ((vs.toArray.extract 0 (min (Int.toNat 0) vs.toArray.size)).push v ++ vs.toArray.extract (min (Int.toNat 0) vs.toArray.size)).size == vs.toArray.size then kk else kk + 1) } : Obj) = _
    rw [e, if_neg (by simp)]
  exact h _ (S₃.ch (k := s₃.toks) hch (Heap.SameBut.update ..) hl ⟨v :: vs, kk + 1, rfl, .cons pv av⟩ (Nat.le_refl _))
theorem intMul64 {a b : Int} (h0 : -(2 ^ 64) < a) (h1 : a < 2 ^ 64) : IntMulOk a b := IntMulOk.of_left (intBits_le_64 h0 h1)

theorem PE.bytesOf {x : Str} {e : Expr} {ns : List Int} (G : C.Good d u) (hx : nsIn (KF C.w) mainGlobals x = some none) (hv : bootBuiltins x = some (.type "bytes")) (he : PN C m nw e (oL (ns.map vI))) (hr : ∀ n ∈ ns, 0 ≤ n ∧ n < 256) (hz : ns.length ≤ sizeLine)
    (hst : starEach [e] C.env = [(false, eval e C.env)] := by rfl)
    (hn : x ≠ "__name__" := by decide +kernel) (hk : C.env.kindOf x = some .globalImplicit := by first | kernel_rfl | rfl) (hd : (x == ("__debug__" : Str)) = false := by decide +kernel) : PE C m nw (.Call (.Name x p) [e] [] q) (vY ns) := PX.mk fun s E S => by
  refine wpAny_Call_NameR ((PE.bglob G hx hv hn hk hd).go S fun v s₁ k S₁ z => ?_)
  have z : v = _ := z
  subst z
  rw [hst]
  refine PyProof.Rows.callWith_type rfl (Calls.evalArgs_plain (Calls.spliced_cons (he.go S₁ fun v s₂ ext k₂ S₂ S₂' f fr => ?_)))
  obtain ⟨a, rfl, rfl⟩ := f
  obtain ⟨o, ho, vs, kk, rfl, av⟩ := (fr.1 _ (.head _)).2
  refine Calls.spliced_nil (call_bytes_ints (isList_of ho) (intsAre_of av) hr (by rw [av.length, List.length_map]; exact hz) G.ok.handled fun h' t k' hk' => ?_)
  exact ⟨keeps_tr k (keeps_tr k₂ ⟨h', k', rfl, hk'⟩), [], ⟨⟨_, t, rfl, KBa.ints_make hr⟩, rfl⟩, Fresh.nil⟩
end
end
end Mine

-- part L8
namespace Mine
noncomputable section

theorem valueAt_stored {K : Type} [DecidableEq K] (kvs : List (K × Value)) (k : K) (v : Value) (k' : K) : valueAt (stored kvs k v) k' = if k' = k then some v else valueAt kvs k' := by
  unfold stored
  by_cases h : kvs.any (fun kv => kv.1 = k) = true
  · rw [if_pos h]
    induction kvs with
    | nil => simp at h
    | cons p r ih =>
      obtain ⟨a, b⟩ := p
      by_cases ha : a = k
      · subst ha
        by_cases hk : k' = a
        · subst hk; simp [valueAt]
        · rw [if_neg hk]
          have hk2 : ¬ a = k' := fun e => hk e.symm
          simp only [valueAt, List.map_cons, if_true, List.find?_cons, hk2, decide_false]
          congr 1
          have : ∀ l : List (K × Value), (l.map fun kv => if kv.1 = a then (kv.1, v) else kv).find? (fun kv => decide (kv.1 = k')) = l.find? fun kv => decide (kv.1 = k') := by
            intro l
            induction l with
            | nil => rfl
            | cons q l ih =>
              rw [List.map_cons, List.find?_cons, List.find?_cons]
              by_cases hq : q.1 = a
              · rw [if_pos hq]
                have : ¬ q.1 = k' := fun e => hk (e.symm.trans hq)
                simp only [this, decide_false]; exact ih
              · rw [if_neg hq]
                by_cases hq2 : q.1 = k'
                · simp [hq2]
                · simp only [hq2, decide_false]; exact ih
          exact this r
      · have h' : r.any (fun kv => kv.1 = k) = true := by simpa [List.any_cons, ha] using h
        have ih := ih h'
        simp only [valueAt, List.map_cons, ha, if_false, List.find?_cons] at ih ⊢
        by_cases hk : a = k'
        · subst hk; simp [ha]
        · simp only [hk, decide_false]; exact ih
  · rw [if_neg h]
    have hn : ∀ p ∈ kvs, p.1 ≠ k := fun p hp e => h (List.any_eq_true.mpr ⟨p, hp, by simp [e]⟩)
    by_cases hk : k' = k
    · subst hk
      rw [if_pos rfl]
      simp only [valueAt, List.find?_append]
      have : kvs.find? (fun kv => decide (kv.1 = k')) = none := by rw [List.find?_eq_none]; intro p hp; simpa using hn p hp
      rw [this]; simp
    · rw [if_neg hk]
      have hk2 : ¬ k = k' := fun e => hk e.symm
      simp only [valueAt, List.find?_append, List.find?_cons, hk2, decide_false, List.find?_nil, Option.or_none]

/-- a dict: what it holds at each key -/
def oD {w : World} {K : Type} [DecidableEq K] (knd : KeyKind pg w K) (n : Nat) (f : K → Option VP) : OP := fun o => ∃ kvs, o.IsDictOf knd kvs ∧ kvs.length ≤ n ∧ ∀ k, match f k with | none => valueAt kvs k = none | some P => ∃ v, valueAt kvs k = some v ∧ P v
theorem oD.at0 {w : World} {K : Type} [DecidableEq K] {knd : KeyKind pg w K} {f : K → Option VP} {kvs : List (K × Value)} (h : ∀ k, match f k with | none => valueAt kvs k = none | some P => ∃ v, valueAt kvs k = some v ∧ P v) {k : K} (e : f k = none) : valueAt kvs k = none := by
  have := h k; rw [e] at this; exact this
theorem oD.at1 {w : World} {K : Type} [DecidableEq K] {knd : KeyKind pg w K} {f : K → Option VP} {P : VP} {kvs : List (K × Value)} (h : ∀ k, match f k with | none => valueAt kvs k = none | some P => ∃ v, valueAt kvs k = some v ∧ P v) {k : K} (e : f k = some P) : ∃ v, valueAt kvs k = some v ∧ P v := by
  have := h k; rw [e] at this; exact this
section
variable {C : Cx} {m : Str → Option Value} {nw : Ld} {s : Shared} {Q : Flow → Shared → Prop} {rest body : List Stmt} {p q : Pos} {d u : Nat} {K : Type} [DecidableEq K]

abbrev pnD (O : OP) : FP := fun v ext => ∃ a : Addr, v = .ref a ∧ ext = [(a, O)] ∧ (a == sysModules) = false

/-- d[k] -/
theorem PE.idxD {a b : Expr} {l : Addr} {knd : KeyKind pg C.w K} {n : Nat} {f : K → Option VP} {k : K} {P Pk : VP} (ha : PE C m nw a (vIs (.ref l))) (hl : Has C nw l (oD knd n f)) (hb : PE C m nw b Pk) (hk : ∀ v, Pk v → knd.is k v = true) (hP : f k = some P)
    (hs : ∀ v, Pk v → subscripted b false (.ref l) v = operate [.ref l, v] (getItem (.ref l) v) := by intros; with_unfolding_all rfl)
    (hg : ∀ r, letTemporaryGo a (.ref l) r = pure () := by intro _; with_unfolding_all rfl) :
    PE C m nw (.Subscript a b p) P :=
  PX.item ha hb fun s v v' S e e' => TX.tok fun E Q h => by
    have e : v = .ref l := e
    subst e
    obtain ⟨o, ho, kvs, hd, hn, hv⟩ := hl.get S
    have hD : s.heap.DictOf knd l kvs := Heap.dictOf_iff.mpr ⟨o, ho, hd⟩
    obtain ⟨x, hx, px⟩ := oD.at1 (knd := knd) hv hP
    exact subscriptTail_builtin hD.typeIs slot_dict_getitem.lookup (wpAny_getItem_of (hk v' e') hD.mapOf hx (h _ _ px)) (hs v' e') hg

/-- d.get(k, default) -/
theorem PE.getD {ox e1 e2 : Expr} {apos cpos : Pos} {l : Addr} {knd : KeyKind pg C.w K} {n : Nat} {f : K → Option VP} {k : K} {Pk P : VP} (ha : PE C m nw ox (vIs (.ref l))) (hl : Has C nw l (oD knd n f)) (hS : (l == sysModules) = false) (h1 : PE C m nw e1 Pk) (hk : ∀ v, Pk v → knd.is k v = true) (h2 : PE C m nw e2 (fun v => f k = none → P v))
    (hP : ∀ Pv, f k = some Pv → ∀ v, Pv v → P v)
    (hst : starEach [e1, e2] C.env = [(false, eval e1 C.env), (false, eval e2 C.env)] := by rfl)
    (hc : McEq C ox "get" apos [e1, e2] cpos := by first | kernel_rfl | rfl) :
    PE C m nw (.Call (.Attribute ox "get" apos) [e1, e2] [] cpos) P := PX.mk fun s E S => by
  refine MethodCall_ (ha.go S fun v s₁ k₁ S₁ e => ?_) hc
  have e : v = .ref l := e
  subst e
  obtain ⟨o, ho, kvs, hd, hn, hv⟩ := hl.get S₁
  have hD : s₁.heap.DictOf knd l kvs := Heap.dictOf_iff.mpr ⟨o, ho, hd⟩
  refine getMethod_builtin hD.typeIs PySem.F.plainAttrs_dict PySem.F.slot_dict_get PySem.F.type_dict_get hD.mapOf.noDict ?_
  rw [hst]
  refine callWith_builtin rfl (Calls.evalArgs_plain (Calls.spliced_cons (h1.go S₁ fun v₁ s₂ k₂ S₂ p₁ => ?_)))
  refine Calls.spliced_cons (h2.go S₂ fun v₂ s₃ k₃ S₃ p₂ => Calls.spliced_nil ?_)
  have hD₃ : s₃.heap.DictOf knd l kvs := Heap.dictOf_iff.mpr ⟨o, keeps_get k₃ (keeps_get k₂ ho), hd⟩
  refine call_meetsIn PySem.F.slot_dict_get hD₃.typeIs PySem.F.entry_dict_get (PySem.F.args_dict_get_3 _ _ _) (meets_dict_get_default knd l (hk v₁ p₁) hS v₂) ⟨_, hD₃.mapOf, ?_⟩
  refine ⟨keeps_tr k₁ (keeps_tr k₂ (keeps_tr k₃ (keeps_tok s₃ _))), [], ⟨?_, rfl⟩, Fresh.nil⟩
  cases hf : f k with
  | none => rw [oD.at0 (knd := knd) hv hf]; exact p₂ hf
  | some Pv =>
    obtain ⟨x, hx, px⟩ := oD.at1 (knd := knd) hv hf
    rw [hx]; exact hP Pv hf x px

theorem PT.notInD {a b : Expr} {l : Addr} {knd : KeyKind pg C.w K} {n : Nat} {f : K → Option VP} {k : K} {Pk : VP} (ha : PE C m nw a Pk) (hk : ∀ v, Pk v → knd.is k v = true) (hb : PE C m nw b (vIs (.ref l))) (hl : Has C nw l (oD knd n f)) (hS : (l == sysModules) = false)
    (hm : behindInMarks .NotIn b = false := by with_unfolding_all rfl) : PT C m nw (.Compare a [.NotIn] [b] p) (f k).isNone := by
  refine PT.mk fun s E S => ?_
  refine wpAny_isTrue_Compare1 ?_ hm
  refine ha.go S fun v s₁ k₁ S₁ p₁ => hb.go S₁ fun v' s₂ k₂ S₂ p₂ => ?_
  have e : v' = .ref l := p₂
  subst e
  obtain ⟨o, ho, kvs, hd, hn, hv⟩ := hl.get S₂
  have hD : s₂.heap.DictOf knd l kvs := Heap.dictOf_iff.mpr ⟨o, ho, hd⟩
  have hin : (!(valueAt kvs k).isSome) = (f k).isNone := by
    cases hf : f k with
    | none => rw [oD.at0 (knd := knd) hv hf]; rfl
    | some Pv => obtain ⟨x, hx, px⟩ := oD.at1 (knd := knd) hv hf; rw [hx]; rfl
  refine wpAny_notIn_of (hk v p₁) hS hD.mapOf ?_
  rw [hin]
  exact wpAny_truthy_bool ⟨keeps_tr k₁ (keeps_tr k₂ (keeps_tok _ _)), rfl⟩
end
end
end Mine

-- part L9
namespace Mine
noncomputable section

inductive KV : List (Option Expr) → List Expr → List (Str × Str) → Prop
  | nil : KV [] [] []
  | cons {x y : Str} {a b : Nat} {p q : Pos} {ks : List (Option Expr)} {vs : List Expr} {l : List (Str × Str)} : KV ks vs l → KV (some (.Constant (.str x) a p) :: ks) (.Constant (.str y) b q :: vs) ((x, y) :: l)
theorem KV.len {ks vs l} (h : KV ks vs l) : ks.length = l.length ∧ vs.length = l.length ∧ ks.all (·.isSome) = true := by
  induction h with
  | nil => exact ⟨rfl, rfl, rfl⟩
  | cons _ ih => exact ⟨by simp [ih.1], by simp [ih.2.1], by simpa using ih.2.2⟩

section
variable {C : Cx} {m : Str → Option Value} {nw : Ld} {s : Shared} {Q : Flow → Shared → Prop} {rest body : List Stmt} {p q : Pos} {d u : Nat} {K : Type} [DecidableEq K]

theorem evalKV {env : Env} {pos : Pos} {ks vs l} (h : KV ks vs l) : ∀ {s : Shared} {Q : List (Value × Value) → Shared → Prop} {E : Value → Shared → Prop}, (∀ prs k, Paired (fun a b => vS a.1 b.1 ∧ vS a.2 b.2) l prs → Q prs { s with toks := k }) →
    wpAny (model pg C.w) C.A (evalPairs (pairTrees ks vs env pos)) Q E s := by
  induction h with
  | nil => intro s Q E hq; exact pairTrees_nil_walk (hq [] s.toks .nil)
  | @cons x y a b p q ks vs l _ ih =>
    intro s Q E hq
    refine pairTrees_cons_walk (wpAny_Constant_str (k := a) (pos := p) (wpAny_Constant_str (k := b) (pos := q) ?_))
    exact ih fun prs k hp => hq _ k (.cons ⟨⟨_, rfl⟩, ⟨_, rfl⟩⟩ hp)

theorem carriesKV {l : List (Str × Str)} {prs : List (Value × Value)} (h : Paired (fun a b => vS a.1 b.1 ∧ vS a.2 b.2) l prs) :
    ∃ kvs, Carries (strKind pg C.w) prs kvs ∧ kvs.map (·.1) = l.map (·.1) ∧ ∀ k, match (l.lookup k).map vS with | none => valueAt kvs k = none | some P => ∃ v, valueAt kvs k = some v ∧ P v := by
  induction h with
  | nil => exact ⟨[], trivial, rfl, fun k => rfl⟩
  | @cons a b l l' hab _ ih =>
    obtain ⟨kvs, h1, h2, h3⟩ := ih
    obtain ⟨x, y⟩ := a
    obtain ⟨kv, vv⟩ := b
    obtain ⟨⟨t, e⟩, ⟨t', e'⟩⟩ := hab
    have e : kv = .str x t := e
    have e' : vv = .str y t' := e'
    subst e e'
    refine ⟨(x, .str y t') :: kvs, ⟨strKind_is _ _ _ _, rfl, h1⟩, by simp [h2], fun k => ?_⟩
    by_cases hk : k = x
    · subst hk
      rw [List.lookup_cons, beq_self_eq_true]
      exact ⟨.str y t', by simp [valueAt], ⟨t', rfl⟩⟩
    · have hk2 : ¬ x = k := fun e => hk e.symm
      rw [List.lookup_cons, beq_false_of_ne hk]
      have : valueAt ((x, Value.str y t') :: kvs) k = valueAt kvs k := by simp [valueAt, hk2]
      rw [this]; exact h3 k

theorem PX.dictS {keys : List (Option Expr)} {values : List Expr} {l : List (Str × Str)} (G : C.Good d u) (h : KV keys values l) (h0 : l ≠ []) (hlen : l.length ≤ 15) (hn : (l.map (·.1)).Nodup) :
    PX C m nw (.Dict keys values p) (pnD (oD (strKind pg C.w) 15 fun k => (l.lookup k).map vS)) := PX.mk fun s E S => by
  obtain ⟨l1, l2, l3⟩ := h.len
  refine wpAny_Dict_walk (knd := strKind pg C.w) l3 (l1.trans l2.symm) (by rintro rfl; exact h0 (List.length_eq_zero_iff.mp l1.symm)) (by rw [l1]; exact hlen) (evalKV (C := C) h fun prs k hp => ?_)
  obtain ⟨kvs, hc, hk, hv⟩ := carriesKV (C := C) hp
  refine ⟨kvs, hc, Heap.DictOf.new _, fun h' hd hs => ?_⟩
  rw [merged_nil_of_nodup kvs (by rw [hk]; exact hn)] at hd
  obtain ⟨o, ho, hdo⟩ := Heap.dictOf_iff.mp hd
  refine ⟨⟨h', _, rfl, fun b o e => (hs.2 b (Nat.ne_of_lt (Heap.lt_size e))).trans (Heap.get?_push_of_some _ e)⟩, _, ⟨_, rfl, rfl, ?_⟩, fun p hp => ?_, by simp⟩
  · have := modules_low (S.gi G).nolimit
    exact beq_false_of_ne (Nat.ne_of_gt this)
  · rw [List.mem_singleton.mp hp]
    exact ⟨Heap.get?_none_of_le (Nat.le_refl _), o, ho, kvs, hdo, by have := congrArg List.length hk; simp at this; omega, hv⟩

/-- {k: e} with a number as the key and a new object as what it holds -/
theorem PX.dictI1 {ek ev : Expr} {i : Int} {O : OP} (G : C.Good d u) (hk : PE C m nw ek (vI i)) (hv : PN C m nw ev O) :
    PX C m nw (.Dict [some ek] [ev] p) (fun v ext => ∃ a t : Addr, v = .ref a ∧ ext = [(a, oD (intKind pg C.w) 1 fun k => if k = i then some (vIs (.ref t)) else none), (t, O)] ∧ (a == sysModules) = false) := PX.mk fun s E S => by
  refine wpAny_Dict_walk (knd := intKind pg C.w) rfl rfl (by simp) (by simp) (pairTrees_cons_walk ?_)
  have k₀ : Keeps s { s with heap := s.heap.push { cls := .type "dict", data := .dict #[] } } := keeps_push s _ s.toks
  refine hk.go (S.keeps k₀ (Nat.le_refl _)) fun kv s₁ k₁ S₁ p₁ => PX.go hv S₁ fun vv s₂ ext k₂ S₂' S₂ f fr => ?_
  obtain ⟨t, rfl, rfl⟩ := f
  obtain ⟨tk, rfl⟩ := p₁
  refine pairTrees_nil_walk ⟨[(i, .ref t)], ⟨intKind_is _ _ _ _, rfl, trivial⟩, ?_, fun h' hd hs => ?_⟩
  · exact (Heap.DictOf.new (knd := intKind pg C.w) s.heap).at fun o e => keeps_get k₂ (keeps_get k₁ e)
  · rw [merged_nil_of_nodup [(i, .ref t)] (by simp)] at hd
    obtain ⟨o, ho, hdo⟩ := Heap.dictOf_iff.mp hd
    have hlt : ∀ b o, s.heap.get? b = some o → b ≠ s.heap.objs.size := fun b o e => Nat.ne_of_lt (Heap.lt_size e)
    obtain ⟨ht0, ot, hot, hO⟩ := fr.1 _ (.head _)
    have htn : t ≠ s.heap.objs.size := by
      rintro rfl
      have h1 := keeps_get k₁ (b := s.heap.objs.size) (Heap.get?_push_size s.heap (o := { cls := .type "dict", data := .dict #[] }) rfl)
      rw [show s₁.heap.get? s.heap.objs.size = none from ht0] at h1; cases h1
    refine ⟨⟨h', s₂.toks + 1, ?_, fun b o e => (hs.2 b (hlt b o e)).trans (keeps_get k₂ (keeps_get k₁ (Heap.get?_push_of_some _ e)))⟩, _, ⟨_, t, rfl, rfl, ?_⟩, fun p hp => ?_, ?_⟩
    · obtain ⟨_, _, rfl, _⟩ := k₁
      obtain ⟨_, _, rfl, _⟩ := k₂
      rfl
    · have := modules_low (S.gi G).nolimit
      exact beq_false_of_ne (Nat.ne_of_gt this)
    · rcases List.mem_cons.mp hp with rfl | hp
      · refine ⟨Heap.get?_none_of_le (Nat.le_refl _), o, ho, _, hdo, Nat.le_refl _, fun k => ?_⟩
        by_cases hk : k = i
        · subst hk; simp [valueAt]
        · have : ¬ i = k := fun e => hk e.symm
          simp [hk, valueAt, this]
      · rw [List.mem_singleton.mp hp]
        exact ⟨none_of (keepsH (keeps_tr k₀ k₁)) ht0, ot, (hs.2 t htn).trans hot, hO⟩
    · simp only [List.map_cons, List.map_nil, List.nodup_cons, List.mem_singleton, List.not_mem_nil, not_false_eq_true, List.nodup_nil, and_true]
      exact fun e => htn e.symm

/-- d[k] = e, with a new object e -/
theorem s_setDN {od ek e : Expr} {l : Addr} {n : Nat} {f : Int → Option VP} {i : Int} {O : OP} {sp : Pos} (S : C.St m nw s) (he : PN C m nw e O) (ho : ∀ t, PE C m ((t, O) :: nw) od (vIs (.ref l))) (hk : ∀ t, PE C m ((t, O) :: nw) ek (vI i)) (hn : n ≤ sizeLine)
    (h : ∀ t, ∃ nw', Ch l (oD (intKind pg C.w) n f) (oD (intKind pg C.w) (n + 1) fun k => if k = i then some (vIs (.ref t)) else f k) nw nw' ∧ ∀ s₂, C.St m ((t, O) :: nw') s₂ → Ex C rest Q s₂)
    (hs : swapsWith e (some (.Subscript od ek sp)) p.line C.env = pure false := by first | kernel_rfl | rfl) :
    Ex C (.Assign [.Subscript od ek sp] e p :: rest) Q s := by
  refine ex_cons (wpAny_Assign_Subscript (PX.go he S fun v s₁ ext k₁ _ S₁ fe fr => ?_) hs)
  obtain ⟨t, rfl, rfl⟩ := fe
  refine (ho t).go S₁ fun v s₂ k₂ S₂ e₂ => (hk t).go S₂ fun v' s₃ k₃ S₃ e₃ => ?_
  have e₂ : v = .ref l := e₂
  subst e₂
  obtain ⟨tk, rfl⟩ := e₃
  obtain ⟨nw', hch, g⟩ := h t
  obtain ⟨o, hg, kvs, hd, hl, hv⟩ := S₃.at (.tail _ hch.mem)
  have hD : s₃.heap.DictOf (intKind pg C.w) l kvs := Heap.dictOf_iff.mpr ⟨o, hg, hd⟩
  refine wpAny_setItem_pairs (hsz := Nat.le_trans hl hn) (intKind_is _ _ _ _) hD fun h' hd' hs' => ?_
  obtain ⟨o', ho', hdo'⟩ := Heap.dictOf_iff.mp hd'
  refine g _ (S₃.ch (k := s₃.toks + 1) (Ch.tail hch) hs' ho' ⟨_, hdo', ?_, fun k => ?_⟩ (Nat.le_succ _))
  · have := stored_length_le kvs i (.ref t); omega
  · rw [valueAt_stored]
    by_cases hk : k = i
    · simp [hk]
    · simp only [hk, if_false]; exact hv k
end
end
end Mine

-- part L10
namespace Mine
noncomputable section

theorem Ch.app {a : Addr} {O O' : OP} {nw nw' : Ld} (h : Ch a O O' nw nw') : ∀ X : Ld, Ch a O O' (X ++ nw) (X ++ nw')
  | [] => h
  | _ :: X => .tail (h.app X)

section
variable {C : Cx} {m : Str → Option Value} {nw : Ld} {s : Shared} {Q : Flow → Shared → Prop} {rest body : List Stmt} {p q : Pos} {d u : Nat} {K : Type} [DecidableEq K]

theorem Cx.St.pin {nw' : Ld} {a : Addr} {O O' : OP} (S : C.St m nw s) (hch : Ch a O O' nw nw') (hO : ∀ o, s.heap.get? a = some o → O o → O' o) : C.St m nw' s := by
  obtain ⟨o, ho, hq⟩ := S.at hch.mem
  have := S.ch (k := s.toks) hch ⟨rfl, fun _ _ => rfl⟩ ho (hO o ho hq) (Nat.le_refl _)
  exact this

/-- the first entries of the ledger are other ones now; the rest stays -/
theorem Cx.St.over {pre pre' : Ld} {h' : Heap} {k : Nat} (S : C.St m (pre ++ nw) s) (hk : ∀ b o, b ∉ pre.map (·.1) → s.heap.get? b = some o → h'.get? b = some o) (hkeys : pre'.map (·.1) = pre.map (·.1)) (hpre : ∀ p ∈ pre', ∃ o, h'.get? p.1 = some o ∧ p.2 o) (ht : s.toks ≤ k) :
    C.St m (pre' ++ nw) { s with heap := h', toks := k } := by
  have hold : ∀ a ∈ pre.map (·.1), a ≠ C.env.locals ∧ C.h₀.get? a = none := fun a ha => by
    obtain ⟨p, hp, rfl⟩ := List.mem_map.mp ha
    exact (S.led p (List.mem_append_left _ hp)).2
  have nd := S.nd
  rw [List.map_append] at nd
  refine ⟨let ⟨_, _, e⟩ := S.same; ⟨h', k, by rw [e]⟩, ⟨let ⟨o, es, ep, ho, r⟩ := S.fr.ns; ⟨o, es, ep, hk _ _ (fun hm => (hold _ hm).1 rfl) ho, r⟩, fun b o e => hk b o (fun hm => by rw [(hold b hm).2] at e; cases e) (S.fr.keep b o e), S.fr.above⟩, fun p hp => ?_, by rw [List.map_append, hkeys]; exact nd, Nat.lt_of_lt_of_le S.tk ht⟩
  rcases List.mem_append.mp hp with hp | hp
  · exact ⟨hpre p hp, hold _ (by rw [← hkeys]; exact List.mem_map_of_mem (f := (·.1)) hp)⟩
  · obtain ⟨⟨o, e, q⟩, r⟩ := S.led p (List.mem_append_right _ hp)
    exact ⟨⟨o, hk _ _ (fun hm => (List.nodup_append.mp nd).2.2 _ hm _ (List.mem_map_of_mem (f := (·.1)) hp) rfl) e, q⟩, r⟩

/-- the first entries of the ledger are let go -/
theorem Cx.St.drop {pre : Ld} {h' : Heap} {k : Nat} (S : C.St m (pre ++ nw) s) (hk : ∀ b o, b ∉ pre.map (·.1) → s.heap.get? b = some o → h'.get? b = some o) (ht : s.toks ≤ k) :
    C.St m nw { s with heap := h', toks := k } := by
  have hold : ∀ a ∈ pre.map (·.1), a ≠ C.env.locals ∧ C.h₀.get? a = none := fun a ha => by
    obtain ⟨p, hp, rfl⟩ := List.mem_map.mp ha
    exact (S.led p (List.mem_append_left _ hp)).2
  have nd := S.nd
  rw [List.map_append] at nd
  refine ⟨let ⟨_, _, e⟩ := S.same; ⟨h', k, by rw [e]⟩, ⟨let ⟨o, es, ep, ho, r⟩ := S.fr.ns; ⟨o, es, ep, hk _ _ (fun hm => (hold _ hm).1 rfl) ho, r⟩, fun b o e => hk b o (fun hm => by rw [(hold b hm).2] at e; cases e) (S.fr.keep b o e), S.fr.above⟩, fun p hp => ?_, (List.nodup_append.mp nd).2.1, Nat.lt_of_lt_of_le S.tk ht⟩
  obtain ⟨⟨o, e, q⟩, r⟩ := S.led p (List.mem_append_right _ hp)
  exact ⟨⟨o, hk _ _ (fun hm => (List.nodup_append.mp nd).2.2 _ hm _ (List.mem_map_of_mem (f := (·.1)) hp) rfl) e, q⟩, r⟩

theorem as_tupI {elts : List Expr} {k : Nat} {pos : Pos} {t : Addr} {vs : List Value} {Q : Shared → Prop} (xs : List Str) (S : C.St m nw s) (hh : C.A.handled = none) (ht : IsTup s.heap t vs.toArray) (hn : Nms elts xs)
    (hl : xs.length = vs.length) (hk : (xs.all fun x => C.env.kindOf x == some .local) = true) (hkk : C.env.scope.kind = .function) (h : ∀ s', C.St (updL m xs vs) nw s' → Q s') : As C (.Tuple elts k pos) (.ref t) Q s := by
  obtain ⟨h1, h2⟩ := starless (env := C.env) hn
  refine ⟨assign_Tuple_tuple hh ht (by rw [h1, List.size_toArray]; exact hl) h2 fun h' he => ?_⟩
  have S' : C.St m nw { s with heap := h' } := S.keeps ⟨h', s.toks, rfl, fun b o e => he b o (Nat.ne_of_lt (Heap.lt_size e)) e⟩ (Nat.le_refl _)
  exact inOrder hn S' hl (fun x hx => by have := List.all_eq_true.mp hk x hx; simpa using this) hkk h

/-- what a walk with enumerate goes over -/
structure ESrc (C : Cx) (m : Str → Option Value) (nw : Ld) (iter : Expr) (Ps : List VP) : Prop where
  run : ∀ s E, C.St m nw s → wpAny (model pg C.w) C.A (eval iter C.env) (fun v s₁ => Keeps s s₁ ∧ ∃ (e it l : Addr) (vs : List Value) (c : Nat), v = .ref e ∧ AllP Ps vs ∧ IsEnum s₁.heap e it 0 .none ∧ s₁.heap.IsListIter it l 0 ∧ s₁.heap.get? l = some (W.listOf vs.toArray c) ∧
    s.heap.get? e = none ∧ s.heap.get? it = none ∧ s.heap.get? l = none ∧ e ≠ it ∧ l ≠ e ∧ l ≠ it) E s

abbrev enumQ (C : Cx) (Q : Flow → Shared → Prop) (X : Ld) (Inv : (Str → Option Value) → Ld → Prop) : Flow → Shared → Prop := fun fl s₃ => match fl with
  | .next | .cont => ∃ m₂ nw₂, C.St m₂ (X ++ nw₂) s₃ ∧ Inv m₂ nw₂
  | .ret v => Q (.ret v) s₃
  | .brk => False
theorem s_forEnum {iter : Expr} {xi xv : Str} {p1 p2 p3 : Pos} {k0 : Nat} {Ps : List VP} (Inv : Nat → (Str → Option Value) → Ld → Prop) (S : C.St m nw s) (hh : C.A.handled = none) (hsrc : ESrc C m nw iter Ps) (h0 : Inv 0 m nw)
    (hturn : ∀ i x t P m₁ nw₁ s₁ X, Ps[i]? = some P → P x → Inv i m₁ nw₁ → C.St (updL m₁ [xi, xv] [.int i t, x]) (X ++ nw₁) s₁ →
      Ex C body (enumQ C Q X (Inv (i + 1))) s₁)
    (hafter : ∀ m₁ nw₁ s₁, Inv Ps.length m₁ nw₁ → C.St m₁ nw₁ s₁ → Ex C rest Q s₁)
    (hkk : C.env.scope.kind = .function := by first | kernel_rfl | rfl) (hk : ([xi, xv].all fun x => C.env.kindOf x == some .local) = true := by first | kernel_rfl | rfl)
    (hs : ∀ x, foldedSetIterable iter C.env x = pure x := by intro _; rfl) :
    Ex C (.For (.Tuple [.Name xi p1, .Name xv p2] k0 p3) iter body [] p :: rest) Q s := by
  refine ex_cons (wpAny_For (wpAny_mono (wpAny_toks (hsrc.run s _ S)) (fun v s₁ z => ?_) fun _ _ z => z.2) hs)
  obtain ⟨tk, k, e, it, l, vs, c, rfl, av, he, hit, hl, ne, ni, nl, hei, hle, hli⟩ := z
  have Wk := WalksT.enumerate (prog := pg) (w := C.w) hh e it l hei hle hli vs.toArray
  have hlen : vs.toArray.size = Ps.length := by rw [List.size_toArray, av.length]
  rw [hlen] at Wk
  refine Wk.self 0 s₁ _ _ ⟨⟨_, he⟩, hit, isList_of hl⟩ ?_
  -- the first state
  have S₁ : C.St m ([(e, fun o => s₁.heap.get? e = some o), (it, fun o => s₁.heap.get? it = some o), (l, fun x => x = W.listOf vs.toArray c)] ++ nw) s₁ := by
    refine S.ext k ⟨fun p hp => ?_, ?_⟩ tk
    · obtain ⟨oi, hoi, _⟩ := id hit
      rcases List.mem_cons.mp hp with rfl | hp
      · exact ⟨ne, _, he, he⟩
      rcases List.mem_cons.mp hp with rfl | hp
      · exact ⟨ni, _, hoi, hoi⟩
      · rw [List.mem_singleton.mp hp]; exact ⟨nl, _, hl, rfl⟩
    · simp only [List.map_cons, List.map_nil, List.nodup_cons, List.mem_cons, List.mem_singleton, List.not_mem_nil, not_or, or_false, not_false_eq_true, List.nodup_nil, and_true]
      exact ⟨⟨hei, fun q => hle q.symm⟩, fun q => hli q.symm⟩
  refine codeAny_forLoop_any (fun k s' => ∃ i m₁ nw₁ oe oi, k = Ps.length - i ∧ i ≤ Ps.length ∧ s'.heap.get? e = some oe ∧ s'.heap.get? it = some oi ∧ ((∃ old, IsEnum s'.heap e it i old) ∧ s'.heap.IsListIter it l i ∧ s'.heap.IsList l vs.toArray) ∧ Inv i m₁ nw₁ ∧ C.St m₁ ([(e, fun x => x = oe), (it, fun x => x = oi), (l, fun x => x = W.listOf vs.toArray c)] ++ nw₁) s') ?_ Ps.length ?_
  · rintro _ s' ⟨i, m₁, nw₁, oe, oi, rfl, hi, hge, hgi, hst, hinv, S'⟩
    by_cases hlt : i < Ps.length
    · refine wpAny_with_toks (Nat.le_refl _) (Wk.item i s' _ _ hlt hst fun T vals h' tk' hP hT hTup hMid hk' htk => ?_)
      obtain ⟨t, x, hx, rfl⟩ := hP
      refine Wk.go _ _ _ i T _ _ _ hMid fun h'' hst'' hk'' => ?_
      have hap := Wk.apart _ _ _ hMid
      have hT'' : IsTup h'' T #[.int i t, x] := let ⟨o, ho, r⟩ := hTup; ⟨o, hk'' T o hap ho, r⟩
      obtain ⟨⟨old, he''⟩, ⟨oi'', hoi'', hri⟩, hl''⟩ := id hst''
      have hset : ∀ b, b ∉ [(e, fun (x : Obj) => x = oe), (it, fun x => x = oi)].map (·.1) → b ∉ [e, it] := fun b hb => hb
      have S₂ := Cx.St.over (nw := (l, fun x => x = W.listOf vs.toArray c) :: nw₁) (pre := [(e, fun x => x = oe), (it, fun x => x = oi)]) (pre' := [(e, fun x => x = { cls := .type "enumerate", dict := none, data := .fields #[.none, .bool false, .ref it, rawInt ((i + 1 : Nat) : Int), .none, old], slots := #[] }), (it, fun x => x = oi'')]) (h' := h'') (k := tk') S' (fun b o hb q => hk'' b o (hset b hb) (hk' b o (hset b hb) q)) rfl (fun p hp => by
        rcases List.mem_cons.mp hp with rfl | hp
        · exact ⟨_, he'', rfl⟩
        · rw [List.mem_singleton.mp hp]; exact ⟨_, hoi'', rfl⟩) htk
      refine wpAny_mono (as_tupI (vs := [.int i t, x]) [xi, xv] S₂ hh hT'' (.cons (.cons .nil)) rfl hk hkk (Q := fun s₃ => Ex C body (enumQ C Q [(e, fun x => x = { cls := .type "enumerate", dict := none, data := .fields #[.none, .bool false, .ref it, rawInt ((i + 1 : Nat) : Int), .none, old], slots := #[] }), (it, fun x => x = oi''), (l, fun x => x = W.listOf vs.toArray c)] (Inv (i + 1))) s₃) (fun s₃ S₃ => ?_)).run (fun _ s₃ z => wpAny_mono z.run (fun fl s₄ z => ?_) fun _ _ z => z.elim) fun _ _ z => z.elim
      · obtain ⟨P, hP, px⟩ := av.get' (i := i) (v := x) (by simpa using hx)
        exact hturn i x t P m₁ nw₁ s₃ [(e, fun x => x = { cls := .type "enumerate", dict := none, data := .fields #[.none, .bool false, .ref it, rawInt ((i + 1 : Nat) : Int), .none, old], slots := #[] }), (it, fun x => x = oi''), (l, fun x => x = W.listOf vs.toArray c)] hP px hinv S₃
      · have fin : (∃ m₂ nw₂, C.St m₂ ([(e, fun x => x = { cls := .type "enumerate", dict := none, data := .fields #[.none, .bool false, .ref it, rawInt ((i + 1 : Nat) : Int), .none, old], slots := #[] }), (it, fun x => x = oi''), (l, fun x => x = W.listOf vs.toArray c)] ++ nw₂) s₄ ∧ Inv (i + 1) m₂ nw₂) → ∃ mm, mm < Ps.length - i ∧ ∃ i m₁ nw₁ oe oi, mm = Ps.length - i ∧ i ≤ Ps.length ∧ s₄.heap.get? e = some oe ∧ s₄.heap.get? it = some oi ∧ ((∃ old, IsEnum s₄.heap e it i old) ∧ s₄.heap.IsListIter it l i ∧ s₄.heap.IsList l vs.toArray) ∧ Inv i m₁ nw₁ ∧ C.St m₁ ([(e, fun x => x = oe), (it, fun x => x = oi), (l, fun x => x = W.listOf vs.toArray c)] ++ nw₁) s₄ := by
          rintro ⟨m₂, nw₂, S₄, hinv'⟩
          obtain ⟨⟨o1, e1, q1⟩, _⟩ := S₄.led (e, _) (.head _)
          obtain ⟨⟨o2, e2, q2⟩, _⟩ := S₄.led (it, _) (.tail _ (.head _))
          obtain ⟨⟨o3, e3, q3⟩, _⟩ := S₄.led (l, _) (.tail _ (.tail _ (.head _)))
          have q1 : o1 = _ := q1
          have q2 : o2 = oi'' := q2
          have q3 : o3 = _ := q3
          subst q1 q2 q3
          exact ⟨_, by omega, i + 1, m₂, nw₂, _, _, rfl, hlt, e1, e2, ⟨⟨old, e1⟩, ⟨_, e2, hri⟩, isList_of e3⟩, hinv', S₄⟩
        cases fl with
        | next => exact fin z
        | cont => exact fin z
        | brk => exact z.elim
        | ret v => exact z
    · have hin : i = Ps.length := by omega
      subst hin
      refine wpAny_with_toks (Nat.le_refl _) (Wk.done s' _ _ hst fun h' tk' hk' htk => wpAny_execs_nil ?_)
      exact hafter m₁ nw₁ _ hinv (S'.drop (fun b o hb q => hk' b o (fun hm => hb (by rcases List.mem_cons.mp hm with rfl | hm; exact .head _; rw [List.mem_singleton.mp hm]; exact .tail _ (.head _))) q) htk)
  · obtain ⟨oi, hoi, hri⟩ := id hit
    refine ⟨0, m, nw, _, oi, by omega, Nat.zero_le _, he, hoi, ⟨⟨_, he⟩, hit, isList_of hl⟩, h0, ?_⟩
    refine (S₁.pin (O' := fun x => x = _) .head (fun o e q => Option.some.inj (e.symm.trans he))).pin (O' := fun x => x = oi) (.tail .head) (fun o e q => Option.some.inj (e.symm.trans hoi))
end
end
end Mine

-- part L11
namespace Mine
noncomputable section

theorem AllP.take {Ps : List VP} {vs : List Value} (h : AllP Ps vs) : ∀ n, AllP (Ps.take n) (vs.take n) := by
  induction h with
  | nil => intro n; simpa using AllP.nil
  | cons p _ ih => intro n; cases n with
    | zero => exact .nil
    | succ n => exact .cons p (ih n)
theorem AllP.set {Ps : List VP} {vs : List Value} {P : VP} {v : Value} (h : AllP Ps vs) (pv : P v) : ∀ n, AllP (Ps.set n P) (vs.set n v) := by
  induction h with
  | nil => intro n; exact .nil
  | cons p hr ih => intro n; cases n with
    | zero => exact .cons pv hr
    | succ n => exact .cons p (ih n)

section
variable {C : Cx} {m : Str → Option Value} {nw : Ld} {s : Shared} {Q : Flow → Shared → Prop} {rest body : List Stmt} {p q : Pos} {d u : Nat} {K : Type} [DecidableEq K]

/-- enumerate(xs[:b]) -/
theorem ESrc.sliced {x : Str} {ex eb : Expr} {l : Addr} {vs : List Value} {Ps : List VP} {b : Nat} {p1 p2 : Pos} (G : C.Good d u) (hx : nsIn (KF C.w) mainGlobals x = some none) (hv : bootBuiltins x = some (.type "enumerate"))
    (he : PE C m nw ex (vIs (.ref l))) (hl : ∃ k, C.h₀.IsList l vs.toArray ∧ k = 0) (av : AllP Ps vs) (hb : PE C m nw eb (vI b)) (hz : vs.length ≤ sizeLine)
    (ht : ∀ o r, letTemporaryGo ex o r = pure () := by intro _ _; rfl)
    (hst : starEach [.Subscript ex (.Slice none (some eb) none p1) p2] C.env = [(false, eval (.Subscript ex (.Slice none (some eb) none p1) p2) C.env)] := by rfl)
    (hn : x ≠ "__name__" := by decide +kernel) (hk : C.env.kindOf x = some .globalImplicit := by first | kernel_rfl | rfl) (hd : (x == ("__debug__" : Str)) = false := by decide +kernel) :
    ESrc C m nw (.Call (.Name x p) [.Subscript ex (.Slice none (some eb) none p1) p2] [] q) (Ps.take b) := ⟨fun s E S => by
  refine wpAny_Call_NameR ((PE.bglob G hx hv hn hk hd).go S fun v s₁ k S₁ z => ?_)
  have z : v = _ := z
  subst z
  rw [hst]
  refine PyProof.Rows.callWith_type rfl (Calls.evalArgs_plain (Calls.spliced_cons ?_))
  refine wpAny_Subscript_list_slice (he.go S₁ fun v s₂ k₂ S₂ e₂ => ?_) ht
  have e₂ : v = .ref l := e₂
  subst e₂
  rw [evalPart_none, evalPart_some]
  refine wpAny_pure (hb.go S₂ fun v s₃ k₃ S₃ e₃ => ?_)
  obtain ⟨tb, rfl⟩ := e₃
  obtain ⟨_, hl, _⟩ := hl
  have hl₃ : s₃.heap.IsList l vs.toArray := let ⟨o, ho, r⟩ := hl; ⟨o, S₃.fr.keep _ _ ho, r⟩
  refine ⟨l, vs.toArray, none, some (b : Int), rfl, hl₃, by rw [List.size_toArray]; exact hz, .none, .int b tb, Calls.spliced_nil ?_⟩
  have e : slicePick vs.toArray none (some (b : Int)) none = (vs.take b).toArray := by
    rw [slicePick_plain]
    simp only [Option.elim_none, Option.elim_some, List.drop_zero, Nat.sub_zero, clipAt_nat, List.size_toArray]
    congr 1
    rw [List.take_eq_take_iff]
    omega
  rw [e]
  generalize hH : (s₃.heap.push { cls := .type "slice", data := .fields #[.none, .int b tb, .none] }).push { cls := .type "list", data := .seq (vs.take b).toArray } = H
  have hsz : H.objs.size = s₃.heap.objs.size + 2 := by rw [← hH, Heap.size_push, Heap.size_push]
  have hkeep : ∀ a o, s₃.heap.get? a = some o → H.get? a = some o := fun a o ha => hH ▸ Heap.get?_push_of_some _ (Heap.get?_push_of_some _ ha)
  have hnew : H.get? (s₃.heap.objs.size + 1) = some { cls := .type "list", data := .seq (vs.take b).toArray } := by
    have := Heap.get?_push_size (s₃.heap.push { cls := .type "slice", data := .fields #[.none, .int b tb, .none] }) (o := { cls := .type "list", data := .seq (vs.take b).toArray }) rfl
    rw [Heap.size_push] at this
    rw [← hH]; exact this
  refine call_enumerate_list (s := { s₃ with heap := H }) (isList_of (vs := vs.take b) (k := 0) hnew) fun h' hE hI hs' hk' => ?_
  refine ⟨keeps_tr k (keeps_tr k₂ (keeps_tr k₃ ⟨h', s₃.toks, rfl, fun a o ha => hk' _ _ (hkeep _ _ ha)⟩)), _, _, s₃.heap.objs.size + 1, vs.take b, 0, rfl, av.take b, hE, hI, hk' _ _ hnew, ?_, ?_, ?_, ?_, ?_, ?_⟩
  · exact none_of (keepsH (keeps_tr k (keeps_tr k₂ k₃))) (Heap.get?_none_of_le (by show s₃.heap.objs.size ≤ H.objs.size + 1; omega))
  · exact none_of (keepsH (keeps_tr k (keeps_tr k₂ k₃))) (Heap.get?_none_of_le (by show s₃.heap.objs.size ≤ H.objs.size; omega))
  · exact none_of (keepsH (keeps_tr k (keeps_tr k₂ k₃))) (Heap.get?_none_of_le (by omega))
  · show ¬ (H.objs.size + 1 = H.objs.size); omega
  · show ¬ (s₃.heap.objs.size + 1 = H.objs.size + 1); omega
  · show ¬ (s₃.heap.objs.size + 1 = H.objs.size); omega⟩

/-- xs[i] += e on numbers, the list being new -/
theorem s_augIdx {ol oi e : Expr} {a : Addr} {ks : List Int} {i j : Int} {sp : Pos} (S : C.St m nw s) (ho : PE C m nw ol (vIs (.ref a))) (hi : PE C m nw oi (vI i)) (h0 : 0 ≤ i) (h1 : i < ks.length) (hz : i < 2 ^ 63) (he : PE C m nw e (vI j))
    (h : ∃ nw', Ch a (oL (ks.map vI)) (oL ((ks.set i.toNat (ks.getD i.toNat 0 + j)).map vI)) nw nw' ∧ ∀ s₂, C.St m nw' s₂ → Ex C rest Q s₂)
    (hi' : ∀ ov iv new, augStore oi ov iv new = (do holding [new, ov, iv] (setItem ov iv new); release [new, ov, iv] []; pure .next) := by intros; rfl) :
    Ex C (.AugAssign (.Subscript ol oi sp) .Add e p :: rest) Q s := by
  obtain ⟨nw', hch, g⟩ := h
  refine ex_cons (wpAny_AugAssign_SubscriptAny ?_ hi')
  refine ho.go S fun v s₁ k₁ S₁ e₁ => hi.go S₁ fun v' s₂ k₂ S₂ e₂ => ?_
  have e₁ : v = .ref a := e₁
  subst e₁
  obtain ⟨ti, rfl⟩ := e₂
  obtain ⟨o, hg, vs, kk, rfl, av⟩ := S₂.at hch.mem
  have hlt : i.toNat < ks.length := by omega
  obtain ⟨x, hx, t, rfl⟩ := av.get (i := i.toNat) (P := vI (ks.getD i.toNat 0)) (by rw [List.getElem?_map, List.getElem?_eq_getElem hlt, List.getD_eq_getElem?_getD, List.getElem?_eq_getElem hlt]; rfl)
  refine wpAny_getItem_list (isList_of hg) h0 hz (by simpa using hx) (he.go S₂ fun w s₃ k₃ S₃ e₃ => ?_)
  obtain ⟨tj, rfl⟩ := e₃
  refine wpAny_with_toks (Nat.le_refl _) (PySem.P.iadd_int fun htk => ?_)
  have hg₃ := keeps_get k₃ hg
  have hlen : vs.length = ks.length := by rw [av.length, List.length_map]
  refine ki_setAt (n := kk) (s := { s₃ with toks := _ }) hg₃ h0 hz (by rw [List.size_toArray]; omega) ?_
  refine g _ (S₃.ch (k := s₃.toks + 1) hch (Heap.SameBut.update ..) (IsL.update hg₃ _) ⟨vs.set i.toNat (.int (ks.getD i.toNat 0 + j) s₃.toks), kk, ?_, ?_⟩ htk)
  · show ({ cls := .type "list", data := .seq (vs.toArray.setIfInBounds i.toNat _) (if (vs.toArray.setIfInBounds i.toNat _).size == vs.toArray.size then kk else kk + 1) } : Obj) = W.listOf _ kk
    rw [if_pos (by simp)]
    simp [W.listOf]
  · rw [List.map_set]
    exact av.set ⟨_, rfl⟩ _

/-- x += e on texts -/
theorem s_augS {x : Str} {px : Pos} {e : Expr} {y z : Str} {t : Tok} (S : C.St m nw s) (hx : m x = some (.str y t)) (he : PE C m nw e (vS z)) (hz : y.length + z.length ≤ sizeLine) (h : ∀ t s₂, C.St (upd m x (.str (y ++ z) t)) nw s₂ → Ex C rest Q s₂)
    (hk : C.env.scope.kind = .function := by first | kernel_rfl | rfl) (hl : C.env.kindOf x = some .local := by first | kernel_rfl | rfl) : Ex C (.AugAssign (.Name x px) .Add e p :: rest) Q s := by
  refine ex_cons (wpAny_AugAssign_Name (wpAny_loadName_local hk hl S.fr.ns hx (he.go S fun v s₁ k S₁ ez => ?_)))
  obtain ⟨t', rfl⟩ := ez
  refine wpAny_with_toks (Nat.le_refl _) (PyProof.Rows.iadd_str (fun t'' tk htk => ?_) hz)
  exact st_name (S₁.keeps (keeps_tok s₁ _) htk) (fun s₂ S₂ => h _ s₂ S₂) hk hl

theorem iaddList {l b : Addr} {xs ys : List Value} {n n2 : Nat} {E : Value → Shared → Prop} {Q : Value → Shared → Prop} (hl : s.heap.get? l = some (W.listOf xs.toArray n)) (hb : s.heap.get? b = some (W.listOf ys.toArray n2)) (hz : xs.length + ys.length ≤ 16777216)
    (h : Q (.ref l) { s with heap := s.heap.update l (Obj.mapSeq fun x => x ++ ys.toArray) }) : wpAny (model pg C.w) C.A (inplaceOp .Add (.ref l) (.ref b)) Q E s := by
  unfold inplaceOp
  refine wpAny_holding ?_
  have hT : s.TypeIs (.ref l) "list" := ⟨_, hl, rfl⟩
  have hTb : s.TypeIs (.ref b) "list" := ⟨_, hb, rfl⟩
  have hfi : fillsInplaceSlot (.type "list") "add" (Operator.Add == .Add) = pure false := by
    unfold fillsInplaceSlot
    show (typeLookup (.type "list") (dunderI "add") >>= fun fi => pure (fi.isSome && !isSeqSlot fi)) = pure false
    rw [PySem.F.slot_list_iadd.lookup]
    show (pure (!isSeqSlot (some (.builtin "list.__iadd__"))) : Sem Bool) = pure false
    rw [show isSeqSlot (some (.builtin "list.__iadd__")) = true by decide +kernel]; rfl
  have hfill : fillsNumberSlot (.type "list") "add" = pure false := by rw [fillsNumberSlot]; simp only [typeLookup_type, builtinLookup_eq_fast]; kernel_rfl
  have hsi : seqSlot? (.type "list") (dunderI "add") = pure (some (.builtin "list.__iadd__")) := PySem.seqSlot_of PySem.F.slot_list_iadd.lookup (by decide +kernel)
  refine wpAny_bind (wpAny_typeOf hT (wpAny_bind (wpAny_of_eq hfi ?_)))
  show wpAny _ _ (if false = true then _ else _) Q E s
  rw [if_neg Bool.false_ne_true]
  refine wpAny_bind (wpAny_binaryOp1_none (nm := "add") hT hTb hfill ?_)
  refine wpAny_bind (wpAny_of_eq hsi ?_)
  refine wpAny_bind (wpAny_rule ?_)
  refine call_meets PySem.F.slot_list_iadd hT PySem.F.entry_list_iadd (PySem.F.args_list_iadd_2 _ _) (PySem.AutoSeq1.list___iadd___list_list_0 l xs.toArray n b ys.toArray n2 ?_ (by rw [List.size_toArray, sizeLine_eq]; omega) (by rw [List.size_toArray, List.size_toArray, sizeLine_eq]; omega)) ⟨hl, hb, h⟩
  rw [List.size_toArray, List.size_toArray]
  simp only [Builtin.List.listTooLong, Bool.and_eq_true, not_and, decide_eq_true_eq]
  intro _
  rw [sizeLine_eq]; omega

/-- xs += [..] -/
theorem s_iaddL {x : Str} {px : Pos} {e : Expr} {a : Addr} {Ps Ps' : List VP} {nw' : Ld} (S : C.St m nw s) (hx : m x = some (.ref a)) (he : PN C m nw e (oL Ps')) (hch : Ch a (oL Ps) (oL (Ps ++ Ps')) nw nw') (hz : Ps.length + Ps'.length ≤ 16777216) (hne : Ps' ≠ [])
    (h : ∀ s₂, C.St (upd m x (.ref a)) nw' s₂ → Ex C rest Q s₂)
    (hk : C.env.scope.kind = .function := by first | kernel_rfl | rfl) (hl : C.env.kindOf x = some .local := by first | kernel_rfl | rfl) : Ex C (.AugAssign (.Name x px) .Add e p :: rest) Q s := by
  refine ex_cons (wpAny_AugAssign_Name (wpAny_loadName_local hk hl S.fr.ns hx (PX.go he S fun v s₁ ext k _ S₁ f fr => ?_)))
  obtain ⟨b, rfl, rfl⟩ := f
  obtain ⟨o, hg, vs, kk, rfl, av⟩ := S₁.at (.tail _ hch.mem)
  obtain ⟨o2, hg2, vs2, kk2, rfl, av2⟩ := S₁.at (.head _)
  refine iaddList (C := C) hg hg2 (by rw [av.length, av2.length]; exact hz) ?_
  have hl2 : (s₁.heap.update a (Obj.mapSeq fun x => x ++ vs2.toArray)).get? a = some (W.listOf (vs ++ vs2).toArray (kk + 1)) := by
    refine (IsL.update hg (fun x => x ++ vs2.toArray)).trans ?_
    have hne2 : vs2 ≠ [] := by rintro rfl; have := av2.length; exact hne (List.length_eq_zero_iff.mp this.symm)
    show some ({ cls := .type "list", data := .seq (vs.toArray ++ vs2.toArray) (if (vs.toArray ++ vs2.toArray).size == vs.toArray.size then kk else kk + 1) } : Obj) = _
    rw [if_neg (by simp; exact hne2)]
    simp [W.listOf]
  have S₂ := S₁.ch (k := s₁.toks) (Ch.tail hch) (Heap.SameBut.update ..) hl2 ⟨vs ++ vs2, kk + 1, rfl, av.app av2⟩ (Nat.le_refl _)
  exact st_name (S₂.sub (nw' := nw') (fun p hp => .tail _ hp) (by have := S₂.nd; rw [List.map_cons, List.nodup_cons] at this; exact this.2)) (fun s₂ S₃ => h s₂ S₃) hk hl
end
end
end Mine

-- part L12
namespace Mine
noncomputable section

section
variable {C : Cx} {m : Str → Option Value} {nw : Ld} {s : Shared} {Q : Flow → Shared → Prop} {rest body : List Stmt} {p q : Pos} {d u : Nat}

/-- y = [elt for x in iter]: each element may change the ledger -/
theorem s_assignCompM {elt iter : Expr} {x y : Str} {px py pos : Pos} {scope : Scope} {cl : List (Str × Addr)} {n : Nat} {P : Nat → Value → Prop} {fixed : Ld} (Inv : Nat → Ld → List VP → Prop) (S : C.St m nw s) (hsrc : PSrc C m nw iter n P fixed) (hz : n ≤ sizeLine)
    (hclos : closureFor scope C.env = pure cl) (h0 : Inv 0 nw []) (hfix : ∀ i nw₁ Ps, Inv i nw₁ Ps → ∀ x ∈ fixed, x ∈ nw₁)
    (hturn : ∀ i v L X m' nw₁ Ps, i < n → P i v → Inv i nw₁ Ps → m' x = some v → ME (C.comp scope cl L C.s₀) m' (X ++ nw₁) elt (fun y nw' => ∃ P' nw₂, nw' = X ++ nw₂ ∧ P' y ∧ Inv (i + 1) nw₂ (Ps ++ [P'])))
    (h : ∀ D nw₁ Ps s₂, Inv n nw₁ Ps → C.St (upd m y (.ref D)) ((D, oL Ps) :: nw₁) s₂ → Ex C rest Q s₂)
    (hsw : swapsWith (.ListComp elt [⟨.Name x px, iter, [], 0⟩] scope pos) (some (.Name y py)) p.line C.env = pure true := by first | kernel_rfl | rfl)
    (hkk : C.env.scope.kind = .function := by first | kernel_rfl | rfl) (hy : C.env.kindOf y = some .local := by first | kernel_rfl | rfl)
    (hcell : ∀ y ∈ scope.names, y.2 ≠ .cell := by decide +kernel) (hkind : scope.kind = .function := by first | kernel_rfl | rfl)
    (hnames : ∀ y ∈ scope.names, y.2 = .local → scope.names.lookup y.1 = some .local := by decide +kernel) (hx : scope.names.lookup x = some .local := by first | kernel_rfl | rfl) (hs : ∀ x, foldedSetIterable iter C.env x = pure x := by intro _; rfl) :
    Ex C (.Assign [.Name y py] (.ListComp elt [⟨.Name x px, iter, [], 0⟩] scope pos) p :: rest) Q s := by
  refine ex_cons ?_
  rw [exec_Assign_Name_used _ _ _ _ hsw]
  refine wpAny_bind (wpAny_standAt (wpAny_bind ?_))
  show wpAny _ _ (do let _ ← comprehension (.ListComp elt [⟨.Name x px, iter, [], 0⟩] scope pos) scope C.env _ (newList []) false (eval iter C.env) (some (assign (.Name y py) C.env))) _ _ s
  refine wpAny_bind (wpAny_mono (wpAny_comprehension_free (use := some (assign (.Name y py) C.env)) (Q := fun _ s' => thenQ C rest Q .next s') rfl hs hclos hkind hnames
    (wpAny_mono (wpAny_toks (hsrc.run s _ S)) (fun xv s₁ z => wpAny_mono (wpAny_toks z.2) (fun it s₂ z' => ?_) fun _ _ z => z.2) fun _ _ z => z.2)) (fun _ s' hq => wpAny_pure (wpAny_pure hq)) fun _ _ e => e)
  have tk₂ : s.toks ≤ s₂.toks := Nat.le_trans z.1 z'.1
  obtain ⟨k, I, fp, StI, rfl, Wk, hst, hI, hIfp, hob, hfp, hlt⟩ := z'.2
  obtain ⟨oI, hoI, hpl⟩ := hob _ _ hst
  have S₂ : C.St m ((I, fun x => x = oI) :: nw) s₂ :=
    S.ext (ext := [(I, fun x => x = oI)]) k ⟨fun p hp => by rw [List.mem_singleton.mp hp]; exact ⟨hI, oI, hoI, rfl⟩, by simp⟩ tk₂
  -- the list and the frame
  refine wpAny_newObj_type (wpAny_newFunctionEnv hcell (by intro y hy; simp at hy) (fun h₁ hns₁ hsb₁ => ?_) hkind)
  dsimp only at hns₁ hsb₁ ⊢
  generalize hH2 : s₂.heap.push { cls := .type "list", dict := none, data := .seq ([] : List Value).toArray } = H2 at hns₁ hsb₁ ⊢
  have hD : H2.get? s₂.heap.objs.size = some (W.listOf ([] : List Value).toArray 0) := hH2 ▸ Heap.get?_push_size _ rfl
  have hC : H2.objs.size = s₂.heap.objs.size + 1 := by rw [← hH2, Heap.size_push]
  have kD : Keeps s₂ { s₂ with heap := H2 } := ⟨H2, s₂.toks, rfl, fun b o e => hH2 ▸ Heap.get?_push_of_some _ e⟩
  have S₃ : C.St m ((s₂.heap.objs.size, oL []) :: (I, fun x => x = oI) :: nw) { s₂ with heap := H2 } :=
    S₂.ext (ext := [(s₂.heap.objs.size, oL [])]) kD ⟨fun p hp => by rw [List.mem_singleton.mp hp]; exact ⟨Heap.get?_none_of_le (Nat.le_refl _), _, hD, [], 0, rfl, .nil⟩, by simp⟩ (Nat.le_refl _)
  have hk₁ : ∀ b o, H2.get? b = some o → h₁.get? b = some o := fun b o e => hsb₁.extBut b o (Nat.ne_of_lt (Heap.lt_size e)) (Heap.get?_push_of_some _ e)
  have S₄ : (C.comp scope cl H2.objs.size C.s₀).St _ ((C.env.locals, oNs m) :: (s₂.heap.objs.size, oL []) :: (I, fun x => x = oI) :: nw) { s₂ with heap := h₁, toks := s₂.toks } :=
    S₃.push (C2 := C.comp scope cl H2.objs.size C.s₀) rfl rfl hns₁ hk₁ (Nat.le_refl _) (Nat.le_refl _)
  have loop : ∀ s₃ : Shared, s₃ = { s₂ with heap := h₁, toks := s₂.toks + ([] : List (Str × Value)).length } →
      codeAny (model pg C.w) C.A (.compLoop (.ListComp elt [⟨.Name x px, iter, [], 0⟩] scope pos) 0 (.ref I) (.ref s₂.heap.objs.size) (compEnvC scope cl H2.objs.size C.env))
        (compPost (model pg C.w) C.A (fun _ _ => False) (some (assign (.Name y py) C.env)) (fun _ s' => thenQ C rest Q .next s') (.ref s₂.heap.objs.size) H2.objs.size) s₃ := by
    rintro s₃ rfl
    refine codeAny_compLoop_list (fun k s' => ∃ i m' nw₁ Ps oI, k = n - i ∧ i ≤ n ∧ StI i s'.heap ∧ Inv i nw₁ Ps ∧ Ps.length = i ∧ (C.comp scope cl H2.objs.size C.s₀).St m' ([(C.env.locals, oNs m), (s₂.heap.objs.size, oL Ps), (I, fun x => x = oI)] ++ nw₁) s') ?_ n
      ⟨0, _, nw, [], oI, by omega, Nat.zero_le _, Wk.frame _ _ _ hst fun b hb o e => hk₁ b o (hH2 ▸ Heap.get?_push_of_some _ e), h0, rfl, S₄⟩
    rintro _ s' ⟨i, m', nw₁, Ps, oI, rfl, hi, hst', hinv, hlen, S'⟩
    by_cases hlt' : i < n
    · refine wpAny_with_toks (Nat.le_refl _) (Wk.item i s' _ _ hlt' hst' fun v h' tk hP hst'' hk htk => ?_)
      obtain ⟨o', ho', _⟩ := hob _ _ hst''
      have S'' : (C.comp scope cl H2.objs.size C.s₀).St m' ((I, fun x => x = o') :: (C.env.locals, oNs m) :: (s₂.heap.objs.size, oL Ps) :: nw₁) { s' with heap := h', toks := tk } := by
        have Sp := S'.perm (nw' := (I, fun x => x = oI) :: (C.env.locals, oNs m) :: (s₂.heap.objs.size, oL Ps) :: nw₁) (by
          show List.Perm ((C.env.locals, oNs m) :: (s₂.heap.objs.size, oL Ps) :: (I, fun x => x = oI) :: nw₁) _
          exact (List.Perm.cons _ (List.Perm.swap ..)).trans (List.Perm.swap ..))
        exact Cx.St.over (pre := [(I, fun x => x = oI)]) (pre' := [(I, fun x => x = o')]) Sp (fun b o hb e => hk b o hb e) rfl (fun p hp => by rw [List.mem_singleton.mp hp]; exact ⟨o', ho', rfl⟩) htk
      refine wpAny_assign_Name (st_name S'' (fun s₃ S₃ => ?_) hkind (lookup_relabel_local hx))
      refine (hturn i v H2.objs.size [(I, fun x => x = o'), (C.env.locals, oNs m), (s₂.heap.objs.size, oL Ps)] (upd m' x v) nw₁ Ps hlt' hP hinv (by simp [upd])).go S₃ fun yv nw' s₄ hF S₄ => ?_
      obtain ⟨P', nw₂, rfl, py', hinv'⟩ := hF
      obtain ⟨od, hod, vs, kk, rfl, av⟩ := S₄.at (a := s₂.heap.objs.size) (.tail _ (.tail _ (.head _)))
      refine wpAny_list_append_plain (isPlain hod) (fun h₅ hp₅ hs₅ => ?_) (by rw [List.size_toArray, av.length, hlen]; omega)
      obtain ⟨n₅, hn₅⟩ := hp₅
      have S₅ := S₄.ch (k := s₄.toks) (nw' := (I, fun x => x = o') :: (C.env.locals, oNs m) :: (s₂.heap.objs.size, oL (Ps ++ [P'])) :: nw₂) (.tail (.tail .head)) hs₅ hn₅ ⟨vs ++ [yv], n₅, by simp, av.snoc py'⟩ (Nat.le_refl _)
      refine ⟨n - (i + 1), by omega, i + 1, _, nw₂, Ps ++ [P'], o', rfl, hlt', ?_, hinv', by simp [hlen], S₅.perm (by
          show List.Perm _ ((C.env.locals, oNs m) :: (s₂.heap.objs.size, oL (Ps ++ [P'])) :: (I, fun x => x = o') :: nw₂)
          exact ((List.Perm.cons _ (List.Perm.swap ..)).trans (List.Perm.swap ..)).symm)⟩
      refine Wk.frame _ _ _ hst'' fun b hb o e => ?_
      by_cases hbI : b = I
      · subst hbI
        obtain ⟨⟨o₃, e₃, q₃⟩, _⟩ := S₅.led _ (.head _)
        have : o = o' := Option.some.inj (e.symm.trans ho')
        have q₃ : o₃ = o' := q₃
        rw [this, ← q₃]; exact e₃
      · rcases hfp b hb hbI with ⟨o₀, e₀⟩ | ⟨o₁, hf⟩
        · have h1 := S''.fr.keep b o₀ e₀
          have : o = o₀ := Option.some.inj (e.symm.trans h1)
          rw [this]; exact S₅.fr.keep b o₀ e₀
        · obtain ⟨⟨o₂, e₂, q₂⟩, _⟩ := S''.led _ (.tail _ (.tail _ (.tail _ (hfix _ _ _ hinv _ hf))))
          obtain ⟨⟨o₃, e₃, q₃⟩, _⟩ := S₅.led _ (.tail _ (.tail _ (.tail _ (hfix _ _ _ hinv' _ hf))))
          have : o = o₂ := Option.some.inj (e.symm.trans e₂)
          have q₂ : o₂ = o₁ := q₂
          have q₃ : o₃ = o₁ := q₃
          rw [this, q₂, ← q₃]; exact e₃
    · have hin : i = n := by omega
      subst hin
      refine wpAny_with_toks (Nat.le_refl _) (Wk.done s' _ _ hst' fun h' tk hk htk => ?_)
      have Sp := S'.perm (nw' := (I, fun x => x = oI) :: (C.env.locals, oNs m) :: (s₂.heap.objs.size, oL Ps) :: nw₁) (by
          show List.Perm ((C.env.locals, oNs m) :: (s₂.heap.objs.size, oL Ps) :: (I, fun x => x = oI) :: nw₁) _
          exact (List.Perm.cons _ (List.Perm.swap ..)).trans (List.Perm.swap ..))
      have S₅ : (C.comp scope cl H2.objs.size C.s₀).St m' ((C.env.locals, oNs m) :: (s₂.heap.objs.size, oL Ps) :: nw₁) { s' with heap := h', toks := tk } := Cx.St.drop (pre := [(I, fun x => x = oI)]) Sp (fun b o hb e => hk b o hb e) htk
      have S₆ : C.St m ((s₂.heap.objs.size, oL Ps) :: nw₁) { s' with heap := h', toks := tk } := S₅.pop rfl rfl S.fr.above
      show wpAny _ _ (assign (.Name y py) C.env (.ref s₂.heap.objs.size)) _ _ _
      have hns' := S₅.fr.ns
      have hLC : (C.comp scope cl H2.objs.size C.s₀).env.locals ≠ C.env.locals := (S₅.led (C.env.locals, oNs m) (.head _)).2.1.symm
      refine wpAny_assign_Name (wpAny_storeName_local hy S₆.fr.ns (fun h₂ hn₂ hs₂ => ?_) (by rw [hkk]; rfl))
      refine ⟨m', hns'.sameBut hs₂ hLC, fun h₃ hs₃ => ?_⟩
      have hLC2 : ∀ p ∈ (s₂.heap.objs.size, oL Ps) :: nw₁, p.1 ≠ (C.comp scope cl H2.objs.size C.s₀).env.locals := fun p hp => (S₅.led p (.tail _ hp)).2.1
      have hL0 : C.h₀.get? (C.comp scope cl H2.objs.size C.s₀).env.locals = none := Heap.get?_none_of_le S₅.fr.above
      have S₇ : C.St (upd m y (.ref s₂.heap.objs.size)) ((s₂.heap.objs.size, oL Ps) :: nw₁) { s' with heap := h₂, toks := tk + 1 } :=
        ⟨let ⟨_, _, e⟩ := S'.same; ⟨h₂, tk + 1, by rw [e]⟩, S₆.fr.set hn₂ hs₂, fun p hp => let ⟨⟨o, a, b⟩, c⟩ := S₆.led p hp; ⟨⟨o, (hs₂.2 _ c.1).trans a, b⟩, c⟩, S₆.nd, Nat.succ_pos _⟩
      exact (h _ nw₁ Ps _ hinv ⟨let ⟨_, _, e⟩ := S'.same; ⟨h₃, tk + 1, by rw [e]⟩, ⟨S₇.fr.ns.sameBut hs₃ hLC.symm, fun b o e => (hs₃.2 b fun q => by rw [q] at e; exact nomatch hL0.symm.trans e).trans (S₇.fr.keep b o e), S₇.fr.above⟩, fun p hp => let ⟨⟨o, a, b⟩, c⟩ := S₇.led p hp; ⟨⟨o, (hs₃.2 _ (hLC2 p hp)).trans a, b⟩, c⟩, S₇.nd, Nat.succ_pos _⟩)
  exact codeAny_compStart_list (loop _ rfl) (Wk.self 0 _ _ _ (Wk.frame _ _ _ hst fun b hb o e => hk₁ b o (hH2 ▸ Heap.get?_push_of_some _ e)) (loop _ rfl))
end
end
end Mine

-- part L13
namespace Mine
noncomputable section

theorem isStr_eq {v : Value} {a : Str} (h : v.isStr a = true) : ∃ t, v = .str a t := by
  cases v <;> simp_all [Value.isStr]
theorem isStr_iff {a b : Str} {t : Tok} : (Value.str a t).isStr b = decide (b = a) := by
  by_cases h : b = a
  · subst h; simp [Value.isStr]
  · have : ¬ a = b := fun e => h e.symm
    simp [Value.isStr, h, this]
theorem find_putL (n n' : Str) (hs : Int) (t : Tok) (v : Value) : ∀ es : List DictEntry, ((putL n hs (.str n t) v es).find? (·.key.isStr n')).map (·.val) = if n' = n then some v else (es.find? (·.key.isStr n')).map (·.val)
  | [] => by
    simp only [putL, List.find?_cons, isStr_iff, List.find?_nil]
    by_cases h : n' = n <;> simp [h]
  | e :: r => by
    have ih := find_putL n n' hs t v r
    unfold putL
    by_cases he : e.key.isStr n = true
    · obtain ⟨te, hk⟩ := isStr_eq he
      rw [if_pos he]
      simp only [List.find?_cons, hk, isStr_iff]
      by_cases h : n' = n <;> simp [h]
    · rw [if_neg he, List.find?_cons, List.find?_cons]
      cases h' : e.key.isStr n' with
      | true =>
        obtain ⟨te, hk⟩ := isStr_eq h'
        have hne : n' ≠ n := fun e2 => he (by rw [hk, isStr_iff]; simp [e2])
        simp [hne]
      | false => exact ih
theorem putL_len (n : Str) (hs : Int) (k v : Value) : ∀ es : List DictEntry, (putL n hs k v es).length ≤ es.length + 1
  | [] => Nat.le_refl _
  | e :: r => by
    unfold putL
    split
    · simp
    · have := putL_len n hs k v r; simp; exact this
theorem putL_same (n : Str) (hs : Int) (k v : Value) : ∀ es : List DictEntry, (es.find? (·.key.isStr n)).isSome = true → (putL n hs k v es).length = es.length
  | [], h => by simp at h
  | e :: r, h => by
    unfold putL
    by_cases he : e.key.isStr n = true
    · rw [if_pos he]; rfl
    · rw [if_neg he]
      rw [List.find?_cons] at h
      cases h' : e.key.isStr n with
      | true => exact absurd h' he
      | false =>
        rw [h'] at h
        rw [List.length_cons, List.length_cons, putL_same n hs k v r h]
theorem putL_ref (n : Str) (hs : Int) (t : Tok) (v : Value) : ∀ es : List DictEntry, (∀ e ∈ es, e.refKey = false) → ∀ e ∈ putL n hs (.str n t) v es, e.refKey = false
  | [], _, e, h => by rw [List.mem_singleton.mp h]; rfl
  | e :: r, hr, e', h => by
    unfold putL at h
    split at h
    · rcases List.mem_cons.mp h with rfl | h
      · exact hr e (.head _)
      · exact hr e' (.tail _ h)
    · rcases List.mem_cons.mp h with rfl | h
      · exact hr _ (.head _)
      · exact putL_ref n hs t v r (fun e he => hr e (.tail _ he)) e' h

/-- what an object's dict holds -/
def oA (n : Nat) (f : Str → Option Value) : OP := fun o => ∃ es k, o = dictOf es k ∧ es.length ≤ n ∧ (∀ e ∈ es, e.refKey = false) ∧ ∀ x, (es.find? (·.key.isStr x)).map (·.val) = f x
theorem getL_of {es : List DictEntry} {f : Str → Option Value} (hr : ∀ e ∈ es, e.refKey = false) (hf : ∀ x, (es.find? (·.key.isStr x)).map (·.val) = f x) (x : Str) : getL x es = some (f x) := by
  rw [← hf x]
  unfold getL
  cases h : es.find? (·.key.isStr x) with
  | some e => rfl
  | none =>
    have : es.any (·.refKey) = false := by
      rw [List.any_eq_false]; intro e he; rw [hr e he]; exact Bool.false_ne_true
    simp [this]

inductive Mt : Ld → List (Addr × Obj) → Prop
  | nil : Mt [] []
  | cons {a : Addr} {O : OP} {o : Obj} {nw : Ld} {N : List (Addr × Obj)} : O o → Mt nw N → Mt ((a, O) :: nw) ((a, o) :: N)
theorem Mt.keys {nw : Ld} {N : List (Addr × Obj)} (h : Mt nw N) : N.map (·.1) = nw.map (·.1) := by
  induction h with
  | nil => rfl
  | cons _ _ ih => simp [ih]

section
variable {C : Cx} {m m' : Str → Option Value} {nw nw' : Ld} {s : Shared} {Q : Flow → Shared → Prop} {rest body : List Stmt} {p q : Pos} {d u : Nat} {x dx c : Addr} {n : Nat} {f : Str → Option Value}

theorem Cx.St.news (S : C.St m nw s) : ∃ N, Mt nw N ∧ News C.h₀ C.env.locals s.heap N := by
  have : ∀ l : Ld, (∀ p ∈ l, p ∈ nw) → ∃ N, Mt l N ∧ News C.h₀ C.env.locals s.heap N := by
    intro l
    induction l with
    | nil => exact fun _ => ⟨[], .nil, fun _ h => nomatch h⟩
    | cons p l ih =>
      intro h
      obtain ⟨N, hM, hN⟩ := ih fun q hq => h q (.tail _ hq)
      obtain ⟨⟨o, e, r⟩, hL, h0⟩ := S.led p (h p (.head _))
      refine ⟨(p.1, o) :: N, .cons r hM, fun q hq => ?_⟩
      rcases List.mem_cons.mp hq with rfl | hq
      · exact ⟨e, hL, h0⟩
      · exact hN q hq
  exact this nw fun _ h => h
theorem Cx.St.ofNews {h' : Heap} {k : Nat} {N : List (Addr × Obj)} (S : C.St m nw s) (F : Fr C.h₀ C.env.locals h' m') (hN : News C.h₀ C.env.locals h' N) (hM : Mt nw' N) (hnd : (nw'.map (·.1)).Nodup) (hk : s.toks ≤ k) : C.St m' nw' { s with heap := h', toks := k } := by
  refine ⟨let ⟨_, _, e⟩ := S.same; ⟨h', k, by rw [e]⟩, F, ?_, hnd, Nat.lt_of_lt_of_le S.tk hk⟩
  clear hnd
  induction hM with
  | nil => exact fun _ h => nomatch h
  | @cons a O o nw N ho hM ih =>
    intro p hp
    rcases List.mem_cons.mp hp with rfl | hp
    · obtain ⟨e, hL, h0⟩ := hN (a, o) (.head _)
      exact ⟨⟨o, e, ho⟩, hL, h0⟩
    · exact ih (fun q hq => hN q (.tail _ hq)) p hp
theorem Mt.ch {a : Addr} {O O' : OP} (c : Ch a O O' nw nw') : ∀ {N : List (Addr × Obj)}, Mt nw N → (nw.map (·.1)).Nodup → ∃ o, O o ∧ (a, o) ∈ N ∧ ∀ o', O' o' → ∃ N', Upd a o o' N N' ∧ Mt nw' N' := by
  induction c with
  | head =>
    intro N hM nd
    cases hM with
    | @cons _ _ o _ N ho hM =>
      refine ⟨o, ho, .head _, fun o' ho' => ⟨_, .head fun p hp e => ?_, .cons ho' hM⟩⟩
      rw [List.map_cons, List.nodup_cons] at nd
      refine nd.1 ?_
      show a ∈ _
      rw [← hM.keys, ← e]; exact List.mem_map_of_mem (f := (·.1)) hp
  | @tail p r r' c ih =>
    intro N hM nd
    cases hM with
    | @cons b O₂ o₂ _ N ho hM =>
      rw [List.map_cons, List.nodup_cons] at nd
      obtain ⟨o, h1, h2, h3⟩ := ih hM nd.2
      refine ⟨o, h1, .tail _ h2, fun o' ho' => ?_⟩
      obtain ⟨N', hU, hM'⟩ := h3 o' ho'
      refine ⟨_, .tail (fun e => nd.1 ?_) hU, .cons ho hM'⟩
      have e : b = a := e
      show b ∈ _
      rw [e]; exact List.mem_map_of_mem (f := (·.1)) c.mem

/-- where an object stands -/
structure Ins (C : Cx) (nw : Ld) (x dx c : Addr) (n : Nat) (f : Str → Option Value) : Prop where
  obj : (x, fun o => o = instObj c dx) ∈ nw
  dict : (dx, oA n f) ∈ nw
theorem Ins.at (I : Ins C nw x dx c n f) (S : C.St m nw s) : ∃ es k, InstAt s.heap x (instObj c dx) c (some (dictOf es k)) ∧ es.length ≤ n ∧ (∀ e ∈ es, e.refKey = false) ∧ ∀ y, getL y es = some (f y) := by
  obtain ⟨o, e, rfl⟩ := S.at I.obj
  obtain ⟨o2, e2, es, k, rfl, hl, hr, hf⟩ := S.at I.dict
  exact ⟨es, k, ⟨e, rfl, rfl, e2⟩, hl, hr, fun y => getL_of hr hf y⟩

/-- x.attr, of the object's own dict -/
theorem PE.attr {eo : Expr} {name : Str} {x dx c : Addr} {n : Nat} {f : Str → Option Value} {v : Value} (G : C.Good d u) (ho : PE C m nw eo (vIs (.ref x))) (I : Ins C nw x dx c n f) (attr : Option Value)
    (hg : plainGet (KF C.w) c name = true) (hh : hasDictIn (KF C.w) c = true) (ha : findIn (KF C.w) (.ref c) name = some attr) (hn : noGet (KF C.w) attr = true) (hv : f name = some v) (hho : handedIn v = true)
    (he : eval (.Attribute eo name p) C.env = (do
      let o ← eval eo C.env
      standAt p.atName
      let r ← holding [o] (getAttr o name true)
      letTemporaryGo eo o r
      pure r)) : PE C m nw (.Attribute eo name p) (vIs v) := PX.mk fun s E S => by
  refine PyProof.Rows.Attribute_any_ (ho.go S fun o s₁ k S₁ e => ?_) he
  have e : o = .ref x := e
  subst e
  obtain ⟨es, kk, hI, hl, hr, hf⟩ := I.at S₁
  exact get_own S₁.fr (G.gi.K) hI hg hh ha hn ((hf name).trans (congrArg some hv)) hho ⟨keeps_tr k (keeps_tok _ _), [], ⟨rfl, rfl⟩, Fresh.nil⟩
end
end
end Mine

-- part L14
namespace Mine
noncomputable section

def updA (f : Str → Option Value) (x : Str) (v : Value) : Str → Option Value := fun y => if y = x then some v else f y
section
variable {C : Cx} {m m' : Str → Option Value} {nw nw' : Ld} {s : Shared} {Q : Flow → Shared → Prop} {rest body : List Stmt} {p q : Pos} {d u : Nat} {x dx c : Addr} {n : Nat} {f : Str → Option Value}

theorem wp_setAttr {name : Str} {v : Value} {n' : Nat} {Q : Unit → Shared → Prop} {E : Value → Shared → Prop} (G : C.Good d u) (S : C.St m nw s) (hx : (x, fun o => o = instObj c dx) ∈ nw) (hch : Ch dx (oA n f) (oA n' (updA f name v)) nw nw') (hn : n ≤ 900) (hn' : n' = n + 1 ∨ (n' = n ∧ (f name).isSome = true))
    (hs : findIn (KF C.w) (.ref c) "__setattr__" = some (some (.builtin "object.__setattr__"))) (hp : plainOver (KF C.w) c = true) (ht : takerIn (KF C.w) c name = some none) (hh : hasDictIn (KF C.w) c = true)
    (h : ∀ s', C.St m nw' s' → Q () s') : wpAny (model pg C.w) C.A (setAttr (.ref x) name v) Q E s := by
  obtain ⟨N, hM, hN⟩ := S.news
  obtain ⟨o, ⟨es, k, rfl, hl, hr, hf⟩, hmem, hup⟩ := Mt.ch hch hM S.nd
  obtain ⟨ox, hox, rfl⟩ := S.at hx
  have I : InstAt s.heap x (instObj c dx) c (some (dictOf es k)) := ⟨hox, rfl, rfl, (hN _ hmem).1⟩
  obtain ⟨N', hU, hM'⟩ := hup (dictOf (putL name (PyData.keyHash C.w.params name) (.str name (s.toks + 1)) v es) (putN name es k))
    ⟨_, _, rfl, by
      rcases hn' with rfl | ⟨rfl, hs⟩
      · exact Nat.le_trans (putL_len ..) (Nat.succ_le_succ hl)
      · rw [putL_same _ _ _ _ _ (by have := hf name; cases q : es.find? (·.key.isStr name) with | none => rw [q] at this; rw [← this] at hs; cases hs | some e => rfl)]; exact hl, putL_ref _ _ _ _ _ hr, fun y => by rw [find_putL, hf]; rfl⟩
  refine set_dict S.fr G.gi.K hN I rfl hs hp ht hh (by rw [getL_of hr hf]; rfl) rfl hU (Nat.le_trans (putL_len ..) (by omega)) fun h' F' N'' => ?_
  exact h _ (S.ofNews F' N'' hM' (by rw [hch.keys]; exact S.nd) (Nat.le_add_right _ _))

theorem s_setAttr {eo e : Expr} {name : Str} {F : FP} {ap : Pos} (G : C.Good d u) (S : C.St m nw s) (he : PX C m nw e F) (hn : n ≤ 900)
    (hs : findIn (KF C.w) (.ref c) "__setattr__" = some (some (.builtin "object.__setattr__"))) (hp : plainOver (KF C.w) c = true) (ht : takerIn (KF C.w) c name = some none) (hh : hasDictIn (KF C.w) c = true)
    (h : ∀ v ext, F v ext → PE C m (ext ++ nw) eo (vIs (.ref x)) ∧ (x, fun o => o = instObj c dx) ∈ ext ++ nw ∧ ∃ nw', Ch dx (oA n f) (oA (n + 1) (updA f name v)) (ext ++ nw) nw' ∧ ∀ s₂, C.St m nw' s₂ → Ex C rest Q s₂)
    (hsw : swapsWith e (some (.Attribute eo name ap)) p.line C.env = pure false) : Ex C (.Assign [.Attribute eo name ap] e p :: rest) Q s := by
  refine ex_cons (plainObj_wpAny_Assign_Attribute (PX.go he S fun v s₁ ext k _ S₁ fe fr => ?_) hsw)
  obtain ⟨ho, hx, nw', hch, g⟩ := h v ext fe
  refine ho.go S₁ fun v' s₂ k₂ S₂ e₂ => ?_
  have e₂ : v' = .ref x := e₂
  subst e₂
  exact wp_setAttr G S₂ hx hch hn (.inl rfl) hs hp ht hh fun s₃ S₃ => g s₃ S₃

/-- x.attr += a number -/
theorem s_augAttrI {eo e : Expr} {name : Str} {ap : Pos} {i j : Int} {t : Tok} (G : C.Good d u) (S : C.St m nw s) (ho : PE C m nw eo (vIs (.ref x))) (I : Ins C nw x dx c n f) (he : PE C m nw e (vI j)) (hn : n ≤ 900) (attr : Option Value)
    (hg : plainGet (KF C.w) c name = true) (hh : hasDictIn (KF C.w) c = true) (ha : findIn (KF C.w) (.ref c) name = some attr) (hng : noGet (KF C.w) attr = true) (hv : f name = some (.int i t))
    (hs : findIn (KF C.w) (.ref c) "__setattr__" = some (some (.builtin "object.__setattr__"))) (hp : plainOver (KF C.w) c = true) (ht : takerIn (KF C.w) c name = some none)
    (h : ∀ t', ∃ nw', Ch dx (oA n f) (oA n (updA f name (.int (i + j) t'))) nw nw' ∧ ∀ s₂, C.St m nw' s₂ → Ex C rest Q s₂) : Ex C (.AugAssign (.Attribute eo name ap) .Add e p :: rest) Q s := by
  refine ex_cons (wpAny_AugAssign_AttributeAny (ho.go S fun v' s₁ k S₁ e₁ => ?_))
  have e₁ : v' = .ref x := e₁
  subst e₁
  obtain ⟨es, kk, hI, hl, hr, hf⟩ := I.at S₁
  refine get_own S₁.fr (G.gi.K) hI hg hh ha hng ((hf name).trans (congrArg some hv)) rfl ?_
  have S₂ : C.St m nw { s₁ with toks := s₁.toks + 1 } := S₁.keeps (keeps_tok s₁ _) (Nat.le_succ _)
  refine he.go S₂ fun v s₃ k₃ S₃ e₃ => ?_
  obtain ⟨tj, rfl⟩ := e₃
  refine wpAny_with_toks (Nat.le_refl _) (PySem.P.iadd_int fun htk => ?_)
  obtain ⟨nw', hch, g⟩ := h s₃.toks
  exact wp_setAttr G (S₃.keeps (keeps_tok s₃ _) htk) I.obj hch hn (.inr ⟨rfl, by rw [hv]; rfl⟩) hs hp ht hh fun s₄ S₄ => g s₄ S₄

/-- x.method(..), the method a function of the class -/
theorem ME.method {eo : Expr} {name : Str} {fa : Addr} {es : List Expr} {Ps : List VP} {F : Value → Ld → Prop} {apos cpos : Pos} (G : C.Good d u) (ho : PE C m nw eo (vIs (.ref x))) (I : Ins C nw x dx c n f) (ha : PAs C m nw es Ps)
    (hg : plainGet (KF C.w) c name = true) (hf : findIn (KF C.w) (.ref c) name = some (some (.ref fa))) (ht : PySem.W.isFn (KF C.w) (.ref fa) = true) (hf2 : Mine.isFn (KF C.w) fa = true) (hl : f name = none)
    (hc : ∀ s vs, C.St m nw s → AllP Ps vs → codeAny (model pg C.w) C.A (.call (.ref fa) ⟨.ref x :: vs, []⟩) (RetM C m F) s)
    (hcall : McEq C eo name apos es cpos) : ME C m nw (.Call (.Attribute eo name apos) es [] cpos) F := ⟨fun s S => by
  refine MethodCall_ (ho.go S fun v s₁ k₁ S₁ e => ?_) hcall
  have e : v = .ref x := e
  subst e
  obtain ⟨es', kk, hI, hl', hr, hff⟩ := I.at S₁
  obtain ⟨o, fd, hfo, hfd⟩ := isFn.of hf2
  refine method_inst S₁.fr G.gi.K hI hg hf ht ((hff name).trans (congrArg some hl)) ?_
  refine callWith_function (o := o) (fd := fd) (ha.args S₁ fun vs s₂ k₂ S₂ hv => ?_)
  refine ⟨⟨(S₂.gi G).K _ _ hfo, hfd⟩, wpAny_call (codeAny_mono (hc s₂ vs S₂ hv) fun r s₃ z => ?_)⟩
  obtain ⟨v, nw', rfl, f, S₃⟩ := z
  exact ⟨nw', f, S₃⟩⟩
end
end
end Mine

-- part L15
namespace Mine
noncomputable section

noncomputable def envAtX (w : World) (f L : Addr) : Env :=
  match (KF w).lookup f with
  | some o => match o.data with
    | .func fd => envX fd.qualname fd.scope L f fd.code fd.closure
    | _ => envOf "" { kind := .function, names := [], isGenerator := false, isCoroutine := false } L f .none
  | none => envOf "" { kind := .function, names := [], isGenerator := false, isCoroutine := false } L f .none
theorem envAtX_eq {w : World} {f L : Addr} {oc : Value} {od an : Option Addr} {osl : Array (Option Value)} {name qual : Str} {params : Arguments} {body : List Stmt} {scope : Scope} {cl : List (Str × Addr)} {dV kV doc pm cdv ct : Value}
    (ho : (KF w).lookup f = some ⟨oc, od, .func (fnX name qual params body scope cl dV kV doc pm an cdv ct), osl⟩) : envAtX w f L = envX qual scope L f cdv cl := by
  unfold envAtX; rw [ho]
noncomputable def CMX (C : Cx) (f L : Addr) : Cx := ⟨C.w, C.A.deeper (envAtX C.w f L), envAtX C.w f L, C.h₀, C.s₀⟩
abbrev CX (C : Cx) (qual : Str) (scope : Scope) (L f : Addr) (cdv : Value) (cl : List (Str × Addr)) : Cx := ⟨C.w, C.A.deeper (envX qual scope L f cdv cl), envX qual scope L f cdv cl, C.h₀, C.s₀⟩

section
variable {C : Cx} {m m' : Str → Option Value} {nw nw' : Ld} {s : Shared} {Q : Flow → Shared → Prop} {rest body : List Stmt} {p q : Pos} {d u : Nat}

/-- a call of a function that lies in the heap -/
theorem fnCallH {f : Addr} {fo : Obj} {an : Option Addr} {name qual : Str} {params : Arguments} {body : List Stmt} {scope : Scope} {cl : List (Str × Addr)} {dV kV doc pm cdv ct : Value} {args : List Value} {binds : List (Str × Value)} {F : Value → Ld → Prop}
    (G : C.Good (d + 1) (u + 3)) (S : C.St m nw s) (hfo : s.heap.get? f = some fo) (hd : fo.data = .func (fnX name qual params body scope cl dV kV doc pm an cdv ct)) (hcd : s.heap.CodeRec cdv qual)
    (hbind : bindArgs (fnX name qual params body scope cl dV kV doc pm an cdv ct) ⟨args, []⟩ = pure binds) (hloc : ∀ x ∈ binds, scope.names.lookup x.1 = some .local)
    (h : ∀ L s₁, (CX C qual scope L f cdv cl).Good d u → (CX C qual scope L f cdv cl).St (fun x => binds.reverse.lookup x) ((C.env.locals, oNs m) :: nw) s₁ →
      Ex (CX C qual scope L f cdv cl) body (endM C (CX C qual scope L f cdv cl) m F) s₁)
    (hco : scope.isCoroutine = false) (hgen : scope.isGenerator = false) (hkk : scope.kind = .function) (hcell : ∀ x ∈ scope.names, x.2 ≠ .cell) :
    codeAny (model pg C.w) C.A (.call (.ref f) ⟨args, []⟩) (RetM C m F) s := by
  refine codeAny_call_def (fd := fnX name qual params body scope cl dV kV doc pm an cdv ct) (body := body) (binds := binds) G.ok.room hfo hd (S.gi G).nolimit hcd rfl (fun _ _ _ _ h => by rw [hbind]; exact wpAny_pure h) hcell hloc (fun h₁ hns hk₁ => ?_) hco hgen hkk
  have S₁ := S.push (C2 := CX C qual scope s.heap.objs.size f cdv cl) rfl rfl hns hk₁ (Nat.le_refl _) (Nat.le_add_right s.toks binds.length)
  refine wpAny_mono (h s.heap.objs.size _ ⟨G.gi, G.ok.deeper _, hkk, rfl, rfl⟩ S₁).run (fun fl s' x => ?_) fun _ _ x => x.elim
  obtain ⟨v, m₂, nw', rfl | ⟨rfl, rfl⟩, f, S'⟩ := x
  · exact ⟨_, nw', rfl, f, S'.pop rfl rfl S.fr.above⟩
  · exact ⟨_, nw', rfl, f, S'.pop rfl rfl S.fr.above⟩

theorem fnCallMX {f : Addr} {oc : Value} {od an : Option Addr} {osl : Array (Option Value)} {name qual : Str} {params : Arguments} {body : List Stmt} {scope : Scope} {cl : List (Str × Addr)} {dV kV doc pm cdv ct : Value} {args : List Value} {binds : List (Str × Value)} {F : Value → Ld → Prop}
    (G : C.Good (d + 1) (u + 3)) (S : C.St m nw s) (ho : (KF C.w).lookup f = some ⟨oc, od, .func (fnX name qual params body scope cl dV kV doc pm an cdv ct), osl⟩) (hcd : codeIn (KF C.w) cdv qual = true)
    (hbind : bindArgs (fnX name qual params body scope cl dV kV doc pm an cdv ct) ⟨args, []⟩ = pure binds) (hloc : ∀ x ∈ binds, scope.names.lookup x.1 = some .local)
    (h : ∀ L s₁, (CMX C f L).Good d u → (CMX C f L).St (fun x => binds.reverse.lookup x) ((C.env.locals, oNs m) :: nw) s₁ → Ex (CMX C f L) body (endM C (CMX C f L) m F) s₁)
    (hco : scope.isCoroutine = false := by rfl) (hgen : scope.isGenerator = false := by rfl) (hkk : scope.kind = .function := by rfl) (hcell : ∀ x ∈ scope.names, x.2 ≠ .cell := by decide +kernel) :
    codeAny (model pg C.w) C.A (.call (.ref f) ⟨args, []⟩) (RetM C m F) s := by
  have g := S.gi G
  refine fnCallH G S (g.K _ _ ho) rfl (codeRec_of g.K hcd) hbind hloc (fun L s₁ G' S' => ?_) hco hgen hkk hcell
  have e : CMX C f L = CX C qual scope L f cdv cl := by unfold CMX CX; rw [envAtX_eq ho]
  have h := h L s₁
  rw [e] at h
  exact h G' S'
end
end
end Mine

-- part F1
namespace Mine
noncomputable section
def signs : Str := Str.ofString "&<>\"\r\n\t \\#a"
def one1 (c : Nat) : Str := ⟨#[c]⟩
def mark (d : Int) : Str := one1 (signs.cps.getD (d.fmod 11).toNat 0) ++ Txt.slice signs (some ((d.fdiv 11).fmod 12)) (some ((d.fdiv 11).fmod 12 + 1))

theorem fmod_lt' {i n : Int} (h : 0 < n) : 0 ≤ i.fmod n ∧ i.fmod n < n := ⟨Int.fmod_nonneg_of_pos _ h, Int.fmod_lt_of_pos _ h⟩

theorem fn_mark {w : World} {A : Around} {d u : Nat} {s : Shared} (hk : Ok A (d + 1) (u + 3)) (g : GI w s.heap) (ht : 0 < s.toks) (i : Int) (t : Tok) :
    codeAny (model pg w) A (.call (.ref 122) ⟨[.int i t], []⟩) (RetX s (pv (vS (mark i)))) s := by
  refine fnCall hk g ht (f := 122) (binds := [("draw", .int i t)]) rfl rfl rfl (locs rfl) (fun L s₁ G S => ?_)
  refine s_assignS S PE.kS (fun t₁ s₂ S => ?_)
  refine s_assignI S (PE.mod (PE.fdiv (PE.locI rfl) PE.kI (by decide) (by decide)) PE.kI (by decide)) (fun t₂ s₃ S => ?_)
  have h0 := fmod_lt' (i := i) (n := 11) (by decide)
  have h1 := fmod_lt' (i := i.fdiv 11) (n := 12) (by decide)
  have hl : signs.length = 11 := by decide +kernel
  refine s_ret S (PE.cat (PE.strIdx (x := signs) (PE.locS rfl) (PE.mod (PE.locI rfl) PE.kI (by decide)) h0.1 (by rw [hl]; exact h0.2) (by omega)) (PE.strSlice (x := signs) (PE.locS rfl) (PE.locI rfl) (PE.add (PE.locI rfl) PE.kI) (by rw [hl, sizeLine_eq]; decide)) ?_) (fun v ext s₄ h S => ?_)
  · have := Txt.slice_le signs (some ((i.fdiv 11).fmod 12)) (some ((i.fdiv 11).fmod 12 + 1))
    rw [sizeLine_eq]
    show 1 + _ ≤ _
    omega
  · exact ⟨v, rfl, S.out rfl, [], ⟨h.1, rfl⟩, Fresh.nil⟩

def spelled (x : Str) (d : Int) : Str :=
  (if ((d.fdiv 132).fmod 2 == 0) = true then Str.ofString "\"" ++ Txt.replace (Txt.replace x (Str.ofString "\\") (Str.ofString "\\\\")) (Str.ofString "\"") (Str.ofString "\\\"") ++ Str.ofString "\""
   else Txt.join (Str.ofString "") (x.cps.toList.map fun c => Str.ofString "\\" ++ one1 c)) ++ one1 ((Str.ofString " \n\t\r").cps.getD ((d.fdiv 264).fmod 4).toNat 0)

theorem sign_at {x : Str} : ∀ (i : Nat) (v : Value), SignAt x i v → ∃ a, x.cps.toList[i]? = some a ∧ (fun c v => ∃ u, v = .str (one1 c) u) a v := by
  rintro i v ⟨c, u, h, rfl⟩
  exact ⟨c, by simpa using h, u, rfl⟩
theorem sign_inj : ∀ (a a' : Nat) (v : Value), (∃ u, v = .str (one1 a) u) → (∃ u, v = .str (one1 a') u) → a = a' := by
  rintro a a' v ⟨u, rfl⟩ ⟨u', e⟩
  have : one1 a = one1 a' := by injection e
  simpa [one1] using this
theorem replace_len (x y z : Str) : (Txt.replace x y z).length ≤ x.length + (x.length + 1) * z.length := by
  unfold Txt.replace
  split
  · omega
  · have h1 := StrLaws.occ_length_le x y 0 x.length (x.length + 1)
    have hy : (Builtin.Str.glued y (Builtin.Str.partsBetween x (Builtin.Str.occurrences x y 0 x.length (x.length + 1)) y.length)).length = x.length := by rw [StrLaws.glued_between_self]
    rw [size_glued, length_partsBetween, Nat.add_sub_cancel] at hy
    rw [size_glued, length_partsBetween, Nat.add_sub_cancel]
    have h2 : (Builtin.Str.occurrences x y 0 x.length (x.length + 1)).length * z.length ≤ (x.length + 1) * z.length := Nat.mul_le_mul_right _ h1
    omega

theorem len_cat (x y : Str) : (x ++ y).length = x.length + y.length := strLen_append x y
theorem len_join (ss : List Str) : (Txt.join (Str.ofString "") ss).length = (ss.map (·.length)).sum := by
  show (Builtin.Str.glued _ ss).length = _
  rw [size_glued]
  have : (Str.ofString "").length = 0 := by decide +kernel
  rw [this, Nat.mul_zero, Nat.add_zero]
theorem sum_map_const {α : Type} (f : α → Nat) (k : Nat) (h : ∀ a, f a = k) : ∀ l : List α, (l.map f).sum = l.length * k
  | [] => by simp
  | a :: r => by rw [List.map_cons, List.sum_cons, h, sum_map_const f k h r, List.length_cons, Nat.add_mul, Nat.one_mul, Nat.add_comm]

theorem fn_spelled {w : World} {A : Around} {d u : Nat} {s : Shared} (hk : Ok A (d + 1) (u + 3)) (g : GI w s.heap) (ht : 0 < s.toks) (x : Str) (hx : x.length ≤ 2) (i : Int) (t t' : Tok) :
    codeAny (model pg w) A (.call (.ref 127) ⟨[.str x t, .int i t'], []⟩) (RetX s (pv (vS (spelled x i)))) s := by
  refine fnCall hk g ht (f := 127) (binds := [("mark", .str x t), ("draw", .int i t')]) rfl rfl rfl (locs rfl) (fun L s₁ G S => ?_)
  have hl : (Str.ofString " \n\t\r").length = 4 := by decide +kernel
  have h0 := fmod_lt' (i := i.fdiv 264) (n := 4) (by decide)
  have l1 : (Str.ofString "\"").length = 1 := by decide +kernel
  have l2 : (Str.ofString "\\\\").length = 2 := by decide +kernel
  have l3 : (Str.ofString "\\\"").length = 2 := by decide +kernel
  have l4 : (Str.ofString "\\").length = 1 := by decide +kernel
  have r1 := replace_len x (Str.ofString "\\") (Str.ofString "\\\\")
  have r2 := replace_len (Txt.replace x (Str.ofString "\\") (Str.ofString "\\\\")) (Str.ofString "\"") (Str.ofString "\\\"")
  rw [l2] at r1
  rw [l3] at r2
  refine s_if S (PT.eqI (PE.mod (PE.fdiv (PE.locI rfl) PE.kI (by decide) (by decide)) PE.kI (by decide)) PE.kI) (fun hb s₂ S => ?_) (fun hb s₂ S => ?_)
  · refine s_assignS S (PE.cat (PE.cat PE.kS (PE.repl (PE.repl (PE.locS rfl) (by decide +kernel) (by rw [l2]; omega)) (by decide +kernel) (by rw [l3]; omega)) (by rw [l1, sizeLine_eq]; omega)) PE.kS ?_) (fun t₁ s₃ S => ?_)
    · simp only [len_cat, l1]; rw [sizeLine_eq]; omega
    refine s_nil ?_
    refine s_ret S (PE.cat (PE.locS rfl) (PE.strIdx PE.kS (PE.mod (PE.fdiv (PE.locI rfl) PE.kI (by decide) (by decide)) PE.kI (by decide)) h0.1 (by rw [hl]; exact h0.2) (by omega)) ?_) (fun v ext s₄ h S => ?_)
    · simp only [len_cat, l1]; rw [sizeLine_eq]; show _ + 1 ≤ _; omega
    · refine ⟨v, rfl, S.out rfl, [], ⟨?_, rfl⟩, Fresh.nil⟩
      have := h.1
      simpa only [spelled, hb, if_true, one1] using this
  · refine s_assignS S (PE.join (ss := x.cps.toList.map fun c => Str.ofString "\\" ++ one1 c) ?_ ?_) (fun t₁ s₃ S => ?_)
    · rw [List.map_map]
      refine PN.comp (PSrc.str (fixed := []) G.ok.handled (PE.locS rfl)) (items := x.cps.toList) (by simp) (by rw [sizeLine_eq]; show x.length ≤ _; omega) sign_inj sign_at rfl (fun a L v m' s₀ ha hv hm => ?_)
      obtain ⟨u, rfl⟩ := hv
      refine PE.cat PE.kS (PE.locS hm) (by rw [l4, sizeLine_eq]; show 1 + 1 ≤ _; omega)
    · rw [List.map_map, sum_map_const _ 2 (fun c => by show (Str.ofString "\\" ++ one1 c).length = 2; rw [len_cat, l4]; rfl)]; have : x.cps.toList.length = x.length := by simp [Str.length]
      omega
    · refine s_nil ?_
      refine s_ret S (PE.cat (PE.locS rfl) (PE.strIdx PE.kS (PE.mod (PE.fdiv (PE.locI rfl) PE.kI (by decide) (by decide)) PE.kI (by decide)) h0.1 (by rw [hl]; exact h0.2) (by omega)) ?_) (fun v ext s₄ h S => ?_)
      · rw [len_join, List.map_map, sum_map_const _ 2 (fun c => by show (Str.ofString "\\" ++ one1 c).length = 2; rw [len_cat, l4]; rfl), sizeLine_eq]; have : x.cps.toList.length = x.length := by simp [Str.length]
        show _ + 1 ≤ _; omega
      · refine ⟨v, rfl, S.out rfl, [], ⟨?_, rfl⟩, Fresh.nil⟩
        have := h.1
        simpa only [spelled, hb, Bool.false_eq_true, if_false, one1] using this
end
end Mine

-- part F2
namespace Mine
noncomputable section
section
variable {C : Cx} {m : Str → Option Value} {nw : Ld} {s : Shared}
theorem PE.locY {x : Str} {p : Pos} {ks : List Int} {b : Array UInt8} {t : Tok} (hb : KBw.bInts b = ks) (hv : m x = some (.bytes b t)) (hk : C.env.scope.kind = .function := by first | kernel_rfl | rfl) (hl : C.env.kindOf x = some .local := by first | kernel_rfl | rfl)
    (hd : (x == ("__debug__" : Str)) = false := by decide +kernel) : PE C m nw (.Name x p) (vY ks) :=
  (PE.loc hv hk hl hd).imp fun _ e => ⟨_, _, e, hb⟩
theorem as_tupO {elts : List Expr} {k : Nat} {pos : Pos} {t : Addr} {Ps : List VP} {Q : Shared → Prop} (xs : List Str) (S : C.St m nw s) (hh : C.A.handled = none) (ht : Has C nw t (oT Ps)) (hn : Nms elts xs)
    (hl : xs.length = Ps.length) (hk : (xs.all fun x => C.env.kindOf x == some .local) = true) (hkk : C.env.scope.kind = .function) (h : ∀ vs s', AllP Ps vs → C.St (updL m xs vs) nw s' → Q s') : As C (.Tuple elts k pos) (.ref t) Q s := by
  obtain ⟨o, ho, vs, j, rfl, av⟩ := ht.get S
  exact as_tup xs S hh ho hn (by rw [hl, av.length]) hk hkk fun s' S' => h vs s' av S'
end

def ap (n : Nat) : List Int := if h : n = 0 then [] else ap (n / 16) ++ [65 + ((n % 16 : Nat) : Int)]
termination_by n
decreasing_by omega
theorem ap_zero : ap 0 = [] := by rw [ap]; simp
theorem ap_pos {n : Nat} (h : n ≠ 0) : ap n = ap (n / 16) ++ [65 + ((n % 16 : Nat) : Int)] := by rw [ap]; simp [h]
theorem ap_length : ∀ k n : Nat, n < 16 ^ k → (ap n).length ≤ k
  | 0, n, h => by have : n = 0 := by simp at h; exact h
                  subst this; rw [ap_zero]; simp
  | k + 1, n, h => by
    by_cases h0 : n = 0
    · subst h0; rw [ap_zero]; simp
    · rw [ap_pos h0, List.length_append]
      have := ap_length k (n / 16) (by rw [Nat.pow_succ] at h; omega)
      simp; omega
theorem ap_in : ∀ k n : Nat, n ≤ k → ∀ x ∈ ap n, 65 ≤ x ∧ x < 81
  | 0, n, h => by have : n = 0 := by omega
                  subst this; rw [ap_zero]; simp
  | k + 1, n, h => by
    by_cases h0 : n = 0
    · subst h0; rw [ap_zero]; simp
    · rw [ap_pos h0]
      intro x hx
      rcases List.mem_append.mp hx with hx | hx
      · exact ap_in k (n / 16) (by omega) x hx
      · rw [List.mem_singleton.mp hx]; omega

def apAP : List Int := [65, 66, 67, 68, 69, 70, 71, 72, 73, 74, 75, 76, 77, 78, 79, 80]
theorem ap_pick {k : Nat} (h : k < 16) : ((apAP.drop (clipAt apAP.length (k : Int))).take (clipAt apAP.length ((k : Int) + 1) - clipAt apAP.length (k : Int))) = [65 + (k : Int)] := by
  have : ∀ k : Fin 16, ((apAP.drop (clipAt apAP.length (k.val : Int))).take (clipAt apAP.length ((k.val : Int) + 1) - clipAt apAP.length (k.val : Int))) = [65 + (k.val : Int)] := by decide +kernel
  exact this ⟨k, h⟩

theorem fn_ap {w : World} {A : Around} {d u : Nat} {s : Shared} (hk : Ok A (d + 1) (u + 3)) (g : GI w s.heap) (ht : 0 < s.toks) (i : Int) (hi : i.natAbs < 2 ^ 64) (t : Tok) :
    codeAny (model pg w) A (.call (.ref 42) ⟨[.int i t], []⟩) (RetX s (pv (vY (ap i.natAbs)))) s := by
  refine fnCall hk g ht (f := 42) (binds := [("num", .int i t)]) rfl rfl rfl (locs rfl) (fun L s₁ G S => ?_)
  refine s_assign S (PE.kY (ks := []) rfl) (fun v ext s₂ ⟨⟨b₀, t₀, e, hb⟩, e'⟩ S => ?_)
  subst e e'
  refine s_assign S (PE.kY (ks := apAP) (by decide +kernel)) (fun v ext s₂ ⟨⟨b₁, t₁, e, hb₁⟩, e'⟩ S => ?_)
  subst e e'
  refine s_assignI S (PE.int G rfl (by decide +kernel) (PE.abs G rfl (by decide +kernel) (PE.locI rfl))) (fun t₂ s₂ S => ?_)
  have e1 : (if i < 0 then -i else i) = (i.natAbs : Int) := by split <;> omega
  rw [e1] at S
  refine s_while (fun k m₁ nw₁ => ∃ (ys : List Int) (t : Tok) (b : Array UInt8) (t' : Tok), m₁ "num" = some (.int k t) ∧ m₁ "val" = some (.bytes b t') ∧ KBw.bInts b = ys ∧ m₁ "AP" = some (.bytes b₁ t₁) ∧ ap i.natAbs = ap k ++ ys ∧ k ≤ i.natAbs) i.natAbs S ⟨[], _, _, _, rfl, rfl, hb, rfl, by simp, Nat.le_refl _⟩ ?_
  rintro k m₁ nw₁ s₃ ⟨ys, t, b, t', hn, hv, hy, hA, he, hle⟩ S₃
  refine ⟨_, PT.truthI (PE.locI hn), fun hb s₄ S => ?_, fun hb s₄ S => ?_⟩
  · have hk0 : k ≠ 0 := by rintro rfl; simp at hb
    have hlen := ap_length 16 i.natAbs (by have : (16:Nat)^16 = 2^64 := by decide
                                           omega)
    refine s_tuple S (PN.divmod G rfl (by decide +kernel) (PE.locI hn) PE.kI (by decide) (by decide +kernel)) (fun v ext s₅ ⟨a, e, e'⟩ S => ?_)
    subst e e'
    refine as_tupO ["num", "mod"] S G.ok.handled (.inr (.head _)) (.cons (.cons .nil)) rfl rfl rfl (fun vs s₆ av S => ?_)
    cases av with
    | cons p1 av =>
      cases av with
      | cons p2 av =>
        cases av
        obtain ⟨u1, rfl⟩ := p1
        obtain ⟨u2, rfl⟩ := p2
        have f1 : (k : Int).fdiv 16 = ((k / 16 : Nat) : Int) := by rw [Int.fdiv_eq_ediv_of_nonneg _ (by decide)]; omega
        have f2 : (k : Int).fmod 16 = ((k % 16 : Nat) : Int) := by rw [Int.fmod_eq_emod_of_nonneg _ (by decide)]; omega
        rw [f1, f2] at S
        have hm16 : k % 16 < 16 := Nat.mod_lt _ (by decide)
        have hlen' : ys.length ≤ 16 := by rw [he, List.length_append] at hlen; omega
        refine s_assign S (PE.addY (x := [65 + ((k % 16 : Nat) : Int)]) (y := ys) ((PE.sliceY (x := apAP) (PE.locY (t := t₁) hb₁ (by exact hA)) (PE.locI rfl) (PE.add (PE.locI rfl) PE.kI) (by decide)).imp fun v e => by rw [ap_pick hm16] at e; exact e) (PE.locY (t := t') hy (by exact hv)) (by simp; omega)) (fun v ext s₇ ⟨⟨b₂, t₂, e, hb₂⟩, e'⟩ S => ?_)
        subst e e'
        refine s_nil ⟨k / 16, _, _, by omega, ?_, S⟩
        exact ⟨_, _, _, _, rfl, rfl, hb₂, hA, by rw [he, ap_pos hk0]; simp, by omega⟩
  · have hk0 : k = 0 := by simpa using hb
    subst hk0
    rw [ap_zero, List.nil_append] at he
    refine s_ret S ((PE.loc hv).imp (P' := vY (ap i.natAbs)) fun v e => ⟨_, _, e, by rw [hy, he]⟩) (fun v ext s₅ h S => ?_)
    exact ⟨v, rfl, S.out rfl, [], ⟨h.1, rfl⟩, Fresh.nil⟩

end
end Mine

-- part F3
namespace Mine
noncomputable section

def refsT : List (Str × Str) := [(Str.ofString "&", Str.ofString "&amp;"), (Str.ofString "<", Str.ofString "&lt;"), (Str.ofString ">", Str.ofString "&gt;"), (Str.ofString "\r", Str.ofString "&#xD;")]
def refsV : List (Str × Str) := [(Str.ofString "&", Str.ofString "&amp;"), (Str.ofString "<", Str.ofString "&lt;"), (Str.ofString "\"", Str.ofString "&quot;"), (Str.ofString "\t", Str.ofString "&#x9;"), (Str.ofString "\n", Str.ofString "&#xA;"), (Str.ofString "\r", Str.ofString "&#xD;")]
def mapped (l : List (Str × Str)) (c : Nat) : Str := (l.lookup (one1 c)).getD (one1 c)
def asText (x : Str) : Str := Txt.join (Str.ofString "") (x.cps.toList.map (mapped refsT))
def asValue (x : Str) : Str := Txt.join (Str.ofString "") (x.cps.toList.map (mapped refsV))
theorem lookup_len {l : List (Str × Str)} {n : Nat} (h : ∀ p ∈ l, p.2.length ≤ n) {k y : Str} (e : l.lookup k = some y) : y.length ≤ n := by
  induction l with
  | nil => simp at e
  | cons p r ih =>
    obtain ⟨a, b⟩ := p
    rw [List.lookup_cons] at e
    cases hk : k == a with
    | true => rw [hk] at e; cases e; exact h (a, y) (.head _)
    | false => rw [hk] at e; exact ih (fun p hp => h p (.tail _ hp)) e
theorem mapped_len {l : List (Str × Str)} {n : Nat} (h : ∀ p ∈ l, p.2.length ≤ n) (h1 : 1 ≤ n) (c : Nat) : (mapped l c).length ≤ n := by
  unfold mapped
  cases e : l.lookup (one1 c) with
  | none => exact h1
  | some y => exact lookup_len h e
theorem sum_le {α : Type} {f : α → Nat} {n : Nat} (h : ∀ a, f a ≤ n) : ∀ l : List α, (l.map f).sum ≤ l.length * n
  | [] => by simp
  | a :: r => by
    rw [List.map_cons, List.sum_cons, List.length_cons, Nat.add_mul, Nat.one_mul]
    have := h a
    have := sum_le h r
    omega
theorem mapped_sum {l : List (Str × Str)} {x : Str} (h : ∀ p ∈ l, p.2.length ≤ 6) : ((x.cps.toList.map (mapped l)).map (·.length)).sum ≤ x.length * 6 := by
  rw [List.map_map]
  have := sum_le (f := (fun s : Str => s.length) ∘ mapped l) (n := 6) (fun c => mapped_len h (by decide) c) x.cps.toList
  have e : x.cps.toList.length = x.length := by simp [Str.length]
  rwa [e] at this

theorem fn_text {w : World} {A : Around} {d u : Nat} {s : Shared} (hk : Ok A (d + 1) (u + 3)) (g : GI w s.heap) (ht : 0 < s.toks) (x : Str) (hx : x.length ≤ 100000) (t : Tok) :
    codeAny (model pg w) A (.call (.ref 170) ⟨[.str x t], []⟩) (RetX s (pv (vS (asText x)))) s := by
  refine fnCallC hk g ht (f := 170) (binds := [("mark", .str x t)]) rfl rfl rfl (fun n => kinds_of (show KindsOk _ n [("mark", .str x t)] from ⟨.inl rfl, trivial⟩)) (by decide +kernel) (fun n => by show [n].Nodup; simp) (fun L s₁ G S => ?_)
  have S : (CFC w 170 A s L).St (bindL (envAtC w 170 L).kindOf [("mark", .str x t)] fun _ => none) [(L + 1, oCell none)] s₁ := S
  refine s_assignCell (x := "references") (c := L + 1) (v₀ := none) S (PX.dictS G (l := refsT) (by unfold refsT; exact .cons (.cons (.cons (.cons .nil)))) (by simp [refsT]) (by decide) (by decide +kernel)) (by kernel_rfl) (fun v ext ⟨a, hv, he, ha⟩ => ?_)
  subst hv he
  refine ⟨_, .tail .head, fun s₂ S => ?_⟩
  refine s_ret S (PE.join (ss := x.cps.toList.map (mapped refsT)) ?_ ?_) (fun v ext s₃ h S => ⟨v, rfl, S.out rfl, [], ⟨h.1, rfl⟩, Fresh.nil⟩)
  · rw [List.map_map]
    refine PN.comp (PSrc.str (fixed := []) G.ok.handled (PE.locS rfl)) (items := x.cps.toList) (by simp) (by rw [sizeLine_eq]; show x.length ≤ _; omega) sign_inj sign_at (cl := [("references", L + 1)]) (by kernel_rfl) (fun c L' v m' s₀ hc hv hm => ?_)
    obtain ⟨u, rfl⟩ := hv
    refine PE.getD (k := one1 c) (PE.cell (c := L + 1) (.tail _ (.head _)) (by kernel_rfl)) (.inr (.head _)) ha (PE.loc hm) (fun v e => by cases e; exact strKind_is _ _ _ _) ((PE.loc hm).imp fun v e hn => ?_) (fun Pv hv v pv => ?_)
    · cases e
      have hn : (refsT.lookup (one1 c)).map vS = none := hn
      show ∃ t, _ = Value.str (mapped refsT c) t
      unfold mapped
      cases q : refsT.lookup (one1 c) with
      | none => exact ⟨u, rfl⟩
      | some y => rw [q] at hn; cases hn
    · have hv : (refsT.lookup (one1 c)).map vS = some Pv := hv
      show ∃ t, _ = Value.str (mapped refsT c) t
      unfold mapped
      cases q : refsT.lookup (one1 c) with
      | none => rw [q] at hv; cases hv
      | some y => rw [q] at hv; cases hv; exact pv
  · have := mapped_sum (l := refsT) (x := x) (by decide +kernel)
    omega
theorem fn_value {w : World} {A : Around} {d u : Nat} {s : Shared} (hk : Ok A (d + 1) (u + 3)) (g : GI w s.heap) (ht : 0 < s.toks) (x : Str) (hx : x.length ≤ 100000) (t : Tok) :
    codeAny (model pg w) A (.call (.ref 175) ⟨[.str x t], []⟩) (RetX s (pv (vS (asValue x)))) s := by
  refine fnCallC hk g ht (f := 175) (binds := [("mark", .str x t)]) rfl rfl rfl (fun n => kinds_of (show KindsOk _ n [("mark", .str x t)] from ⟨.inl rfl, trivial⟩)) (by decide +kernel) (fun n => by show [n].Nodup; simp) (fun L s₁ G S => ?_)
  have S : (CFC w 175 A s L).St (bindL (envAtC w 175 L).kindOf [("mark", .str x t)] fun _ => none) [(L + 1, oCell none)] s₁ := S
  refine s_assignCell (x := "references") (c := L + 1) (v₀ := none) S (PX.dictS G (l := refsV) (by unfold refsV; exact .cons (.cons (.cons (.cons (.cons (.cons .nil)))))) (by simp [refsV]) (by decide) (by decide +kernel)) (by kernel_rfl) (fun v ext ⟨a, hv, he, ha⟩ => ?_)
  subst hv he
  refine ⟨_, .tail .head, fun s₂ S => ?_⟩
  refine s_ret S (PE.join (ss := x.cps.toList.map (mapped refsV)) ?_ ?_) (fun v ext s₃ h S => ⟨v, rfl, S.out rfl, [], ⟨h.1, rfl⟩, Fresh.nil⟩)
  · rw [List.map_map]
    refine PN.comp (PSrc.str (fixed := []) G.ok.handled (PE.locS rfl)) (items := x.cps.toList) (by simp) (by rw [sizeLine_eq]; show x.length ≤ _; omega) sign_inj sign_at (cl := [("references", L + 1)]) (by kernel_rfl) (fun c L' v m' s₀ hc hv hm => ?_)
    obtain ⟨u, rfl⟩ := hv
    refine PE.getD (k := one1 c) (PE.cell (c := L + 1) (.tail _ (.head _)) (by kernel_rfl)) (.inr (.head _)) ha (PE.loc hm) (fun v e => by cases e; exact strKind_is _ _ _ _) ((PE.loc hm).imp fun v e hn => ?_) (fun Pv hv v pv => ?_)
    · cases e
      have hn : (refsV.lookup (one1 c)).map vS = none := hn
      show ∃ t, _ = Value.str (mapped refsV c) t
      unfold mapped
      cases q : refsV.lookup (one1 c) with
      | none => exact ⟨u, rfl⟩
      | some y => rw [q] at hn; cases hn
    · have hv : (refsV.lookup (one1 c)).map vS = some Pv := hv
      show ∃ t, _ = Value.str (mapped refsV c) t
      unfold mapped
      cases q : refsV.lookup (one1 c) with
      | none => rw [q] at hv; cases hv
      | some y => rw [q] at hv; cases hv; exact pv
  · have := mapped_sum (l := refsV) (x := x) (by decide +kernel)
    omega

def nameOf (n : Nat) : Str := Txt.join (Str.ofString "") ((ap n).map fun k : Int => (⟨#[k.toNat]⟩ : Str))
theorem fn_name {w : World} {A : Around} {d u : Nat} {s : Shared} (hk : Ok A (d + 2) (u + 6)) (g : GI w s.heap) (ht : 0 < s.toks) (n : Nat) (hn : n < 2 ^ 64) (t : Tok) :
    codeAny (model pg w) A (.call (.ref 96) ⟨[.int n t], []⟩) (RetX s (pv (vS (nameOf n)))) s := by
  refine fnCall (d := d + 1) (u := u + 3) hk g ht (f := 96) (binds := [("number", .int n t)]) rfl rfl rfl (locs rfl) (fun L s₁ G S => ?_)
  have hlen := ap_length 16 n (by have : (16:Nat)^16 = 2^64 := by decide
                                  omega)
  refine s_ret S (PE.join (ss := (ap n).map fun k : Int => (⟨#[k.toNat]⟩ : Str)) ?_ ?_) (fun v ext s₃ h S => ⟨v, rfl, S.out rfl, [], ⟨h.1, rfl⟩, Fresh.nil⟩)
  · rw [List.map_map]
    refine PN.comp (PSrc.bytes (x := ap n) (fixed := []) G.ok.handled (PX.callF G rfl (.cons (PE.locI rfl) .nil) (fun s vs g S av => ?_))) (items := ap n) rfl (by rw [sizeLine_eq]; omega) (R := vI) (by rintro a a' v ⟨t, rfl⟩ ⟨t', e⟩; injection e) (fun i v h => h) (cl := []) (by kernel_rfl) (fun c L' v m' s₀ hc hv hm => ?_)
    · cases av with
      | cons p av =>
        cases av
        obtain ⟨t', rfl⟩ := p
        have := fn_ap G.ok g S.tk n (by simpa using hn) t'
        rwa [Int.natAbs_natCast] at this
    obtain ⟨u, rfl⟩ := hv
    have := ap_in n n (Nat.le_refl _) c hc
    exact PE.chr (Cx.comp_good G rfl) rfl (by decide +kernel) (PE.locI hm) (by omega) (by omega)
  · rw [List.map_map, sum_map_const ((fun x : Str => x.length) ∘ fun k : Int => (⟨#[k.toNat]⟩ : Str)) 1 (fun c => rfl)]
    omega
end
end Mine

-- part F4
namespace Mine
noncomputable section

theorem fn_number {w : World} {A : Around} {d u : Nat} {s : Shared} (hk : Ok A (d + 1) (u + 3)) (g : GI w s.heap) (ht : 0 < s.toks) (n : Nat) (t : Tok) :
    codeAny (model pg w) A (.call (.ref 103) ⟨[.str (one1 (65 + n)) t], []⟩) (RetX s (pv (vI n))) s := by
  refine fnCall hk g ht (f := 103) (binds := [("word", .str (one1 (65 + n)) t)]) rfl rfl rfl (locs rfl) (fun L s₁ G S => ?_)
  refine s_assignI S PE.kI (fun t₁ s₂ S => ?_)
  refine s_for (fixed := []) (fun i m₁ nw₁ => ∃ t, m₁ "number" = some (.int (if i = 0 then 0 else (n : Int)) t)) S (PSrc.str (x := one1 (65 + n)) G.ok.handled (PE.locS rfl)) ⟨t₁, rfl⟩ (fun _ _ _ _ x hx => nomatch hx) (fun i v I oI m₁ nw₁ s₃ hi hv hI S => ?_) (fun m₁ nw₁ s₃ hI S => ?_)
  · have h0 : i = 0 := by have : (one1 (65 + n)).cps.size = 1 := rfl
                          omega
    subst h0
    obtain ⟨t', hm⟩ := hI
    obtain ⟨c, u, hc, rfl⟩ := hv
    have hc : c = 65 + n := by
      have : (one1 (65 + n)).cps[0]? = some (65 + n) := rfl
      rw [this] at hc; exact (Option.some.inj hc).symm
    subst hc
    refine as_name S (fun s₄ S => ?_)
    refine s_assignI S (PE.sub (PE.add (PE.mul (x := 0) (PE.locI (t := t') (by exact hm)) PE.kI (intMul64 (by decide) (by decide))) (PE.ord (c := 65 + n) G rfl (by decide +kernel) (PE.locS (t := u) rfl))) PE.kI) (fun t₂ s₅ S => ?_)
    have e : 0 * 16 + ((65 + n : Nat) : Int) - 65 = n := by omega
    rw [e] at S
    exact s_nil ⟨_, _, S, t₂, rfl⟩
  · obtain ⟨t', hm⟩ := hI
    refine s_ret S (PE.locI (i := n) (t := t') hm) (fun v ext s₄ h S => ⟨v, rfl, S.out rfl, [], ⟨h.1, rfl⟩, Fresh.nil⟩)

def pw : Nat → List Int
  | 0 => [1]
  | k + 1 => (16 ^ (k + 1) : Nat) :: pw k
theorem pw_head : ∀ k, ∃ r, pw k = ((16 ^ k : Nat) : Int) :: r
  | 0 => ⟨[], rfl⟩
  | k + 1 => ⟨pw k, rfl⟩
theorem pw_mem : ∀ k, ∀ x ∈ pw k, ∃ j, j ≤ k ∧ x = ((16 ^ j : Nat) : Int)
  | 0, x, h => ⟨0, Nat.le_refl _, by simpa [pw] using h⟩
  | k + 1, x, h => by
    rcases List.mem_cons.mp h with rfl | h
    · exact ⟨k + 1, Nat.le_refl _, rfl⟩
    · obtain ⟨j, hj, e⟩ := pw_mem k x h; exact ⟨j, Nat.le_succ_of_le hj, e⟩
theorem pw_len : ∀ k, (pw k).length = k + 1
  | 0 => rfl
  | k + 1 => by rw [pw, List.length_cons, pw_len k]
theorem pw_div : ∀ k (n : Nat), (pw k).map (fun p => 65 + ((n / p.toNat % 16 : Nat) : Int)) = ((pw k).map fun p => 65 + ((n / p.toNat % 16 : Nat) : Int)) := fun _ _ => rfl
theorem ap_pw : ∀ (k n : Nat), 16 ^ k ≤ n → n < 16 ^ (k + 1) → ap n = (pw k).map fun p => 65 + ((n / p.toNat % 16 : Nat) : Int)
  | 0, n, h1, h2 => by
    have h1 : 1 ≤ n := by simpa using h1
    have h2 : n < 16 := by simpa using h2
    rw [ap_pos (by omega), show n / 16 = 0 by omega, ap_zero]
    show [] ++ [65 + ((n % 16 : Nat) : Int)] = [65 + ((n / 1 % 16 : Nat) : Int)]
    rw [Nat.div_one]; rfl
  | k + 1, n, h1, h2 => by
    have a1 : 16 ^ k ≤ n / 16 := by rw [Nat.pow_succ] at h1; omega
    have a2 : n / 16 < 16 ^ (k + 1) := by rw [Nat.pow_succ] at h2; omega
    have hp : 0 < 16 ^ k := Nat.pow_pos (by decide)
    rw [ap_pos (by omega), ap_pw k (n / 16) a1 a2]
    -- the powers of k + 1 are those of k, each times 16, and 1
    have key : ∀ k, (pw (k + 1)).map (fun p => 65 + ((n / p.toNat % 16 : Nat) : Int)) = ((pw k).map fun p => 65 + ((n / 16 / p.toNat % 16 : Nat) : Int)) ++ [65 + ((n % 16 : Nat) : Int)] := by
      intro k
      induction k with
      | zero =>
        show [65 + ((n / 16 % 16 : Nat) : Int), 65 + ((n / 1 % 16 : Nat) : Int)] = [65 + ((n / 16 / 1 % 16 : Nat) : Int)] ++ [65 + ((n % 16 : Nat) : Int)]
        rw [Nat.div_one, Nat.div_one]; rfl
      | succ k ih =>
        rw [pw, List.map_cons, ih]
        conv => rhs; rw [pw, List.map_cons, List.cons_append]
        congr 1
        rw [Int.toNat_natCast, Int.toNat_natCast, Nat.div_div_eq_div_mul, Nat.pow_succ 16 (k + 1), Nat.mul_comm]
    rw [key k]

theorem fn_letters {w : World} {A : Around} {d u : Nat} {s : Shared} (hk : Ok A (d + 1) (u + 3)) (g : GI w s.heap) (ht : 0 < s.toks) (n : Nat) (h1 : 1 ≤ n) (hn : n < 2 ^ 64) (t : Tok) :
    codeAny (model pg w) A (.call (.ref 108) ⟨[.int n t], []⟩) (RetX s (pv (vY (ap n)))) s := by
  refine fnCallC hk g ht (f := 108) (binds := [("number", .int n t)]) rfl rfl rfl (fun k => kinds_of (show KindsOk _ k [("number", .int n t)] from ⟨.inr ⟨rfl, rfl⟩, trivial⟩)) (by decide +kernel) (fun n => by show [n].Nodup; simp) (fun L s₁ G S => ?_)
  have S : (CFC w 108 A s L).St (bindL (envAtC w 108 L).kindOf [("number", .int n t)] fun _ => none) [(L + 1, oCell (some (.int n t)))] s₁ := S
  refine s_assignN S (PN.list (.cons PE.kI .nil) (by decide)) (fun a s₂ S => ?_)
  have h16 : (16:Nat) ^ 16 = 2 ^ 64 := by decide
  refine s_while (fun k m₁ nw₁ => ∃ j, k = n - 16 ^ j ∧ 16 ^ j ≤ n ∧ j < 16 ∧ m₁ "powers" = some (.ref a) ∧ nw₁ = [(a, oL ((pw j).map vI)), (L + 1, oCell (some (.int n t)))]) (n - 1) S ⟨0, by simp, by simpa using h1, by decide, rfl, rfl⟩ ?_
  rintro k m₁ nw₁ s₃ ⟨j, rfl, hj, hj16, hm, rfl⟩ S₃
  obtain ⟨r, hr⟩ := pw_head j
  have hpj : (16 : Nat) ^ j < 2 ^ 64 := by omega
  have hb0 : -(2 ^ 64) < ((16 ^ j : Nat) : Int) := Int.lt_of_lt_of_le (by decide) (Int.natCast_nonneg _)
  have hb1 : ((16 ^ j : Nat) : Int) < 2 ^ 64 := by exact_mod_cast hpj
  refine ⟨_, PT.leI (PE.mul (x := ((16 ^ j : Nat) : Int)) (PE.idxL (i := 0) (PE.loc hm) (.inr (.head _)) PE.kI (by decide) (by decide) (by rw [hr]; rfl)) PE.kI (intMul64 hb0 hb1)) (PE.cell (.tail _ (.head _)) (by kernel_rfl) |>.imp fun v e => ⟨_, e⟩), fun hb s₄ S => ?_, fun hb s₄ S => ?_⟩
  · have hle : ((16 ^ j : Nat) : Int) * 16 ≤ n := of_decide_eq_true hb
    have hle' : 16 ^ (j + 1) ≤ n := by rw [Nat.pow_succ]; omega
    have hj' : j + 1 < 16 := by
      refine Nat.lt_of_not_le fun h => ?_
      have : (16:Nat) ^ 16 ≤ 16 ^ (j + 1) := Nat.pow_le_pow_right (by decide) h
      omega
    refine s_insert0 S (PE.loc hm) .head (by rw [List.length_map, pw_len, sizeLine_eq]; omega) (PE.mul (x := ((16 ^ j : Nat) : Int)) (PE.idxL (i := 0) (PE.loc hm) (.inr (.head _)) PE.kI (by decide) (by decide) (by rw [hr]; rfl)) PE.kI (intMul64 hb0 hb1)) (fun s₅ S => ?_)
    have e : ((16 ^ j : Nat) : Int) * 16 = ((16 ^ (j + 1) : Nat) : Int) := by rw [Nat.pow_succ]; omega
    rw [e] at S
    have hp : 0 < 16 ^ j := Nat.pow_pos (by decide)
    exact s_nil ⟨n - 16 ^ (j + 1), _, _, by rw [Nat.pow_succ] at hle' ⊢; omega, ⟨j + 1, rfl, hle', hj', hm, rfl⟩, S⟩
  · have hlt : ¬ ((16 ^ j : Nat) : Int) * 16 ≤ n := of_decide_eq_false hb
    have hlt' : n < 16 ^ (j + 1) := by rw [Nat.pow_succ]; omega
    have hap := ap_pw j n hj hlt'
    obtain ⟨o, ho, vs, kk, rfl, av⟩ := S.at (.head _)
    have S := S.pin (O' := fun x => x = W.listOf vs.toArray kk) .head (fun o e _ => Option.some.inj (e.symm.trans ho))
    refine s_ret S (PE.bytesOf (ns := (pw j).map fun p => 65 + ((n / p.toNat % 16 : Nat) : Int)) G rfl (by decide +kernel) ?_ ?_ (by rw [List.length_map, pw_len, sizeLine_eq]; omega)) (fun v ext s₅ h S => ⟨v, rfl, S.out rfl, [], ⟨by rw [hap]; exact h.1, rfl⟩, Fresh.nil⟩)
    · rw [List.map_map]
      refine PN.comp (PSrc.list (vs := vs) (k := kk) (fixed := [(a, fun x => x = W.listOf vs.toArray kk)]) G.ok.handled (PE.loc hm) (.inr (.head _)) (fun _ => .head _)) (items := pw j) (by rw [av.length, List.length_map]) (by rw [av.length, List.length_map, pw_len, sizeLine_eq]; omega) (R := vI) (by rintro a a' v ⟨t, rfl⟩ ⟨t', e⟩; injection e)
        (fun i v h => ?_) (cl := [("number", L + 1)]) (by kernel_rfl) (fun c L' v m' s₀ hc hv hm => ?_)
      · obtain ⟨P, hP, pv⟩ := av.get' h
        rw [List.getElem?_map] at hP
        cases q : (pw j)[i]? with
        | none => rw [q] at hP; cases hP
        | some x => rw [q] at hP; cases hP; exact ⟨x, rfl, pv⟩
      · obtain ⟨u, rfl⟩ := hv
        obtain ⟨i, hi, rfl⟩ := pw_mem j c hc
        have hp : 0 < 16 ^ i := Nat.pow_pos (by decide)
        have hp2 : 16 ^ i < 2 ^ 64 := Nat.lt_of_le_of_lt (Nat.pow_le_pow_right (by decide) hi) hpj
        have hlog : (16 ^ i : Nat).log2 < 9000 := by
          have := (Nat.log2_lt (by omega : 16 ^ i ≠ 0)).mpr hp2
          omega
        have e2 : ((n : Int).fdiv ((16 ^ i : Nat) : Int)).fmod 16 = ((n / (((16 ^ i : Nat) : Int)).toNat % 16 : Nat) : Int) := by
          rw [Int.fdiv_eq_ediv_of_nonneg _ (Int.natCast_nonneg _), Int.fmod_eq_emod_of_nonneg _ (by decide), Int.toNat_natCast]
          rfl
        refine PE.imp (PE.add PE.kI (PE.mod (PE.fdiv ((PE.cell (c := L + 1) (.tail _ (.head _)) (by kernel_rfl)).imp fun v e => ⟨_, e⟩) (PE.locI hm) (by omega) (by simpa using hlog)) PE.kI (by decide))) (fun v e => by rw [e2] at e; exact e)
    · intro x hx
      obtain ⟨p, _, rfl⟩ := List.mem_map.mp hx
      omega
end
end Mine

-- part F5
namespace Mine
noncomputable section

theorem fn_cells {w : World} {A : Around} {d u : Nat} {s : Shared} (hk : Ok A (d + 1) (u + 3)) (g : GI w s.heap) (ht : 0 < s.toks) (l : Addr) (vs : List Value) (ns : List Int) (hl : s.heap.IsList l vs.toArray) (av : AllP (ns.map vI) vs) (hz : vs.length ≤ 63) :
    codeAny (model pg w) A (.call (.ref 115) ⟨[.ref l], []⟩) (RetX s (fun v ext => ∃ ks : List Int, ks.length = 6 ∧ pn (oL (ks.map vI)) v ext)) s := by
  refine fnCall hk g ht (f := 115) (binds := [("script", .ref l)]) rfl rfl rfl (locs rfl) (fun L s₁ G S => ?_)
  refine s_assignN S (PN.list (.cons PE.kI (.cons PE.kI (.cons PE.kI (.cons PE.kI (.cons PE.kI (.cons PE.kI .nil)))))) (by decide)) (fun a s₂ S => ?_)
  refine s_forEnum (fun i m₁ nw₁ => ∃ ks : List Int, ks.length = 6 ∧ m₁ "cells" = some (.ref a) ∧ nw₁ = [(a, oL (ks.map vI))]) S G.ok.handled
    (ESrc.sliced (b := 60) G rfl (by decide +kernel) (PE.loc (v := .ref l) (by rfl)) ⟨0, hl, rfl⟩ av PE.kI (by rw [sizeLine_eq]; omega)) ⟨[35, 968, 1931, 3765, 643, 185], rfl, rfl, rfl⟩ (fun i x t P m₁ nw₁ s₃ X hP px hI S => ?_) (fun m₁ nw₁ s₃ hI S => ?_)
  · obtain ⟨ks, h6, hm, rfl⟩ := hI
    have hx : ∃ n : Int, vI n x := by
      have : (ns.map vI)[i]? = some P := by
        rw [List.getElem?_take] at hP
        split at hP
        · exact hP
        · cases hP
      rw [List.getElem?_map] at this
      cases q : ns[i]? with
      | none => rw [q] at this; cases this
      | some n => rw [q] at this; cases this; exact ⟨n, px⟩
    obtain ⟨n, tn, rfl⟩ := hx
    have h0 := fmod_lt' (i := (i : Int)) (n := 6) (by decide)
    refine s_augIdx (ks := ks) S (PE.loc (v := .ref a) (by exact hm)) (PE.mod (PE.locI (t := t) rfl) PE.kI (by decide)) h0.1 (by rw [h6]; exact h0.2) (by omega) (PE.mod (PE.locI (t := tn) rfl) PE.kI (by decide)) ⟨_, Ch.app .head X, fun s₂ S => s_nil ⟨_, _, S, ?_⟩⟩
    exact ⟨_, by rw [List.length_set]; exact h6, hm, rfl⟩
  · obtain ⟨ks, h6, hm, rfl⟩ := hI
    refine s_ret S (PE.loc (v := .ref a) hm) (fun v ext s₄ h S => ?_)
    obtain ⟨h1, rfl⟩ := h
    have h1 : v = _ := h1
    subst h1
    exact ⟨_, rfl, S.out rfl, [(a, oL (ks.map vI))], ⟨ks, h6, a, rfl, rfl⟩, S.fresh (List.Sublist.refl _)⟩
end
end Mine

-- part F6
namespace Mine
noncomputable section

structure Stp where
  place : Int
  parent : Int
  draw : Int
def oStp (st : Stp) : OP := oT [vI st.place, vI st.parent, vS (mark st.draw), vI st.draw]
def tupL (qs : List (Addr × Stp)) : Ld := qs.map fun q => (q.1, oStp q.2)
structure GoodSteps (sts : List Stp) : Prop where
  lo : 3 ≤ sts.length
  hi : sts.length ≤ 5
  ok : ∀ (i : Nat) st, sts[i]? = some st → st.place = (i : Int) + 2 ∧ 1 ≤ st.parent ∧ st.parent ≤ (i : Int) + 1
def refsL (ts : List Addr) : OP := oL (ts.map fun t => vIs (.ref t))
def TreeRes : FP := fun v ext => ∃ (hd : Int) (r a : Addr) (qs : List (Addr × Stp)), v = .ref r ∧ ext = (r, oT [vI hd, vIs (.ref a)]) :: (tupL qs ++ [(a, refsL (qs.reverse.map (·.1)))]) ∧ GoodSteps (qs.reverse.map (·.2))

section
variable {C : Cx} {m : Str → Option Value} {nw : Ld} {p q : Pos} {d u : Nat}
theorem PE.lenI {x : Str} {a : Expr} {l : Addr} {vs : List Value} (G : C.Good d u) (hx : nsIn (KF C.w) mainGlobals x = some none) (hv : bootBuiltins x = some (.builtin "len")) (ha : PE C m nw a (vIs (.ref l))) (hl : C.h₀.IsList l vs.toArray) (hz : (vs.length : Int) < 2 ^ 63)
    (hst : ∀ rest, starEach (a :: rest) C.env = (false, eval a C.env) :: starEach rest C.env := by intro _; rfl)
    (hn : x ≠ "__name__" := by decide +kernel) (hk : C.env.kindOf x = some .globalImplicit := by first | kernel_rfl | rfl) (hd : (x == ("__debug__" : Str)) = false := by decide +kernel) : PE C m nw (.Call (.Name x p) [a] [] q) (vI vs.length) :=
  PX.callB G hx hv (.cons ha .nil hst) (fun s vs' S av => TX.tok fun E Q h => by
    cases av with
    | cons e av =>
      cases av
      have e : _ = Value.ref l := e
      subst e
      have hl' : s.heap.IsList l vs.toArray := let ⟨o, ho, r⟩ := hl; ⟨o, S.fr.keep _ _ ho, r⟩
      refine PyProof.Rows.len_list hl' (by rw [List.size_toArray]; exact hz) ?_
      rw [List.size_toArray]
      exact h _ _ ⟨_, rfl⟩) hn hk hd
end

theorem tup_push {C : Cx} {m : Str → Option Value} {nw : Ld} {s : Shared} {tt a I : Addr} {st : Stp} {O : OP} {qs : List (Addr × Stp)} (S : C.St m ((tt, oStp st) :: (I, O) :: (tupL qs ++ (a, oL ((qs.reverse.map (·.1)).map (fun t => vIs (.ref t)) ++ [vIs (.ref tt)])) :: nw)) s) :
    C.St m ((I, O) :: (tupL ((tt, st) :: qs) ++ (a, refsL (((tt, st) :: qs).reverse.map (·.1))) :: nw)) s := by
  have e1 : ((tt, st) :: qs).reverse.map (·.1) = qs.reverse.map (·.1) ++ [tt] := by simp
  rw [e1, show refsL (qs.reverse.map (·.1) ++ [tt]) = oL ((qs.reverse.map (·.1)).map (fun t => vIs (.ref t)) ++ [vIs (.ref tt)]) from by unfold refsL; rw [List.map_append]; rfl]
  exact S.perm (List.Perm.swap ..)

theorem c_mark {C : Cx} {m : Str → Option Value} {nw : Ld} {d u : Nat} {e : Expr} {i : Int} {p q : Pos} (G : C.Good (d + 1) (u + 3)) (he : PE C m nw e (vI i)) (hst : ∀ rest, starEach (e :: rest) C.env = (false, eval e C.env) :: starEach rest C.env := by intro _; rfl) (hl : C.env.kindOf "_law_mark" = some .globalImplicit := by first | kernel_rfl | rfl) :
    PE C m nw (.Call (.Name "_law_mark" p) [e] [] q) (vS (mark i)) :=
  PX.callF G rfl (.cons he .nil hst) (fun s vs g S av => by
    cases av with
    | cons p av => cases av; obtain ⟨t', rfl⟩ := p; exact fn_mark G.ok g S.tk i t') hl

theorem fn_tree {w : World} {A : Around} {d u : Nat} {s : Shared} (hk : Ok A (d + 2) (u + 6)) (g : GI w s.heap) (ht : 0 < s.toks) (l : Addr) (vs : List Value) (ns : List Int) (hl : s.heap.IsList l vs.toArray) (av : AllP (ns.map vI) vs) (hz : vs.length ≤ 63) :
    codeAny (model pg w) A (.call (.ref 134) ⟨[.ref l], []⟩) (RetX s TreeRes) s := by
  refine fnCall (d := d + 1) (u := u + 3) hk g ht (f := 134) (binds := [("script", .ref l)]) rfl rfl rfl (locs rfl) (fun L s₁ G S => ?_)
  refine s_assign S (PX.callF G rfl (.cons (PE.loc (v := .ref l) rfl) .nil) (fun s₂ vs' g S av' => ?_)) (F := fun v ext => ∃ ks : List Int, ks.length = 6 ∧ pn (oL (ks.map vI)) v ext) (fun v ext s₂ ⟨ks, h6, c, e, e'⟩ S => ?_)
  · cases av' with
    | cons p av' =>
      cases av'
      have p : _ = Value.ref l := p
      subst p
      exact fn_cells G.ok g S.tk l vs ns (let ⟨o, ho, r⟩ := hl; ⟨o, S.fr.keep _ _ ho, r⟩) av hz
  subst e e'
  refine s_assignN S (PN.list .nil (by decide)) (fun a s₂ S => ?_)
  have hmin : (if (vs.length : Int) < 2 then (vs.length : Int) else 2) = ((min 2 vs.length : Nat) : Int) := by split <;> omega
  refine s_for (n := 3 + min 2 vs.length) (fixed := []) (fun i m₁ nw₁ => ∃ qs : List (Addr × Stp), qs.length = i ∧ m₁ "cells" = some (.ref c) ∧ m₁ "steps" = some (.ref a) ∧ nw₁ = tupL qs ++ [(a, refsL (qs.reverse.map (·.1))), (c, oL (ks.map vI))] ∧ ∀ (j : Nat) st, (qs.reverse.map (·.2))[j]? = some st → st.place = (j : Int) + 2 ∧ 1 ≤ st.parent ∧ st.parent ≤ (j : Int) + 1) S
    (PSrc.rangeOf (lo := 2) (hi := 5 + ((min 2 vs.length : Nat) : Int)) (st := 1) G.ok.handled ?_ ?_ (range2 G rfl (by decide +kernel) PE.kI (PE.add PE.kI ((PE.min G rfl (by decide +kernel) PE.kI (PE.lenI G rfl (by decide +kernel) (PE.loc (v := .ref l) rfl) hl (by omega))).imp fun v e => by rw [hmin] at e; exact e))))
    ⟨[], rfl, rfl, rfl, rfl, by simp⟩ (fun _ _ _ _ x hx => nomatch hx) (fun i v I oI m₁ nw₁ s₃ hi hv hI S => ?_) (fun m₁ nw₁ s₃ hI S => ?_)
  · have hk2 : min 2 vs.length = 0 ∨ min 2 vs.length = 1 ∨ min 2 vs.length = 2 := by omega
    rcases hk2 with h | h | h <;> rw [h] <;> decide
  · have hk2 : min 2 vs.length = 0 ∨ min 2 vs.length = 1 ∨ min 2 vs.length = 2 := by omega
    rcases hk2 with h | h | h <;> rw [h] <;> decide
  · obtain ⟨qs, hlen, hc, hs, rfl, hat⟩ := hI
    obtain ⟨t, rfl⟩ := hv
    refine as_name S (fun s₄ S => ?_)
    have hi5 : i < 5 := by omega
    have ei : 2 + (i : Int) * 1 - 2 = i := by omega
    have ei1 : 2 + (i : Int) * 1 - 1 = i + 1 := by omega
    refine s_assignI S (PE.idxL (i := (i : Int)) (Ps := ks.map vI) (P := vI (ks.getD i 0)) (PE.loc (v := .ref c) (by exact hc)) (.inr (.tail _ (List.mem_append_right _ (.tail _ (.head _))))) ((PE.sub (PE.locI (t := t) rfl) PE.kI).imp fun v e => by rw [ei] at e; exact e) (by omega) (by omega) ?_) (fun t₁ s₅ S => ?_)
    · have : i < ks.length := by omega
      simp [List.getElem?_map, this]
    refine s_assignI S (PE.fdiv (PE.locI (t := t₁) rfl) ((PE.sub (PE.locI (t := t) rfl) PE.kI).imp fun v e => by rw [ei1] at e; exact e) (by omega) ?_) (fun t₂ s₆ S => ?_)
    · have hc5 : i = 0 ∨ i = 1 ∨ i = 2 ∨ i = 3 ∨ i = 4 := by omega
      rcases hc5 with rfl | rfl | rfl | rfl | rfl <;> decide
    refine s_append S (PE.loc (v := .ref a) (by exact hs)) (.tail _ (List.mem_append_right _ (.head _))) (by simp [sizeLine_eq]; omega)
      (PN.tup (.cons (PE.locI (t := t) rfl) (.cons (PE.add PE.kI (PE.mod (PE.locI (t := t₁) rfl) ((PE.sub (PE.locI (t := t) rfl) PE.kI).imp fun v e => by rw [ei1] at e; exact e) (by omega))) (.cons (c_mark G (PE.locI (t := t₂) rfl)) (.cons (PE.locI (t := t₂) rfl) .nil)))) (by show 4 ≤ sizeLine; rw [sizeLine_eq]; decide)) (fun v ext s₇ f S => ?_)
    obtain ⟨tt, rfl, rfl⟩ := f
    refine ⟨vIs (.ref tt), _, rfl, .tail (.tail (Ch.app .head _)), fun s₈ S => ?_⟩
    refine s_nil ⟨_, _, tup_push (st := (⟨2 + (i : Int) * 1, 1 + (ks.getD i 0).fmod ((i : Int) + 1), (ks.getD i 0).fdiv ((i : Int) + 1)⟩ : Stp)) S, ?_⟩
    · refine ⟨_, by simp [hlen], hc, hs, rfl, ?_⟩
      intro j st hj
      have fm := fmod_lt' (i := ks.getD i 0) (n := (i : Int) + 1) (by omega)
      rw [List.reverse_cons, List.map_append] at hj
      have hl2 : (qs.reverse.map (·.2)).length = i := by simp [hlen]
      by_cases hji : j < i
      · rw [List.getElem?_append_left (by omega)] at hj; exact hat j st hj
      · rw [List.getElem?_append_right (by omega), hl2] at hj
        have : j = i := by
          by_cases h : j - i = 0
          · omega
          · rw [List.getElem?_eq_none (by simp; omega)] at hj; cases hj
        subst this
        rw [Nat.sub_self] at hj
        have hj := Option.some.inj hj
        subst hj
        exact ⟨by show 2 + (j : Int) * 1 = _; omega, by show 1 ≤ 1 + _; omega, by show 1 + _ ≤ _; omega⟩
  · obtain ⟨qs, hlen, hc, hs, rfl, hat⟩ := hI
    refine s_ret S (PN.tup (.cons (PE.idxL (i := 5) (Ps := ks.map vI) (P := vI (ks.getD 5 0)) (PE.loc (v := .ref c) hc) (.inr (List.mem_append_right _ (.tail _ (.head _)))) PE.kI (by decide) (by decide) (by simp [h6])) (.cons (PE.loc (v := .ref a) hs) .nil)) (by show 2 ≤ sizeLine; rw [sizeLine_eq]; decide)) (fun v ext s₄ f S => ?_)
    obtain ⟨r, rfl, rfl⟩ := f
    refine ⟨_, rfl, S.out rfl, _, ⟨ks.getD 5 0, r, a, qs, rfl, rfl, ⟨?_, ?_, hat⟩⟩, S.fresh ?_⟩
    · simp; omega
    · simp; omega
    · exact List.Sublist.cons_cons _ (List.Sublist.append (l₁ := tupL qs) (l₂ := tupL qs) (List.Sublist.refl _) (List.Sublist.cons_cons _ (List.nil_sublist _)))
end
end Mine

-- part F7
namespace Mine
noncomputable section

structure StepsAt (h : Heap) (a : Addr) (ts : List Addr) (sts : List Stp) : Prop where
  list : ∃ k, h.get? a = some (W.listOf (ts.map Value.ref).toArray k)
  len : ts.length = sts.length
  tup : ∀ (i : Nat) t st, ts[i]? = some t → sts[i]? = some st → ∃ o, h.get? t = some o ∧ oStp st o
theorem refs_eq {ts : List Addr} {vs : List Value} (h : AllP (ts.map fun t => vIs (.ref t)) vs) : vs = ts.map Value.ref := by
  induction ts generalizing vs with
  | nil => cases h; rfl
  | cons t r ih => cases h with
    | cons p h => have p : _ = Value.ref t := p
                  rw [p, ih h]; rfl
theorem StepsAt.keeps {h h' : Heap} {a : Addr} {ts : List Addr} {sts : List Stp} (x : StepsAt h a ts sts) (k : ∀ b o, h.get? b = some o → h'.get? b = some o) : StepsAt h' a ts sts :=
  ⟨let ⟨n, e⟩ := x.list; ⟨n, k _ _ e⟩, x.len, fun i t st e e' => let ⟨o, a, b⟩ := x.tup i t st e e'; ⟨o, k _ _ a, b⟩⟩

def stepText (st : Stp) : Str := nameOf st.place.toNat ++ Str.ofString " " ++ nameOf st.parent.toNat ++ Str.ofString " " ++ spelled (mark st.draw) st.draw
def pageOf (hd : Int) (sts : List Stp) : Str := sts.foldl (fun pg st => pg ++ stepText st) (spelled (mark hd) hd)
def stepWords (st : Stp) : List Str := [⟨#[(65 + st.place).toNat]⟩, ⟨#[(65 + st.parent).toNat]⟩, mark st.draw]
def wordsOf (hd : Int) (sts : List Stp) : List Str := mark hd :: sts.flatMap stepWords

theorem mark_len (d : Int) : (mark d).length ≤ 2 := by
  unfold mark
  rw [len_cat]
  have h1 : (one1 (signs.cps.getD (d.fmod 11).toNat 0)).length = 1 := rfl
  have h2 : (Txt.slice signs (some ((d.fdiv 11).fmod 12)) (some ((d.fdiv 11).fmod 12 + 1))).length ≤ 1 := by
    have h0 := fmod_lt' (i := d.fdiv 11) (n := 12) (by decide)
    generalize (d.fdiv 11).fmod 12 = k at h0
    obtain ⟨n, rfl⟩ := Int.eq_ofNat_of_zero_le h0.1
    have hn : n < 12 := by omega
    have : ∀ n : Fin 12, (Txt.slice signs (some ((n.val : Nat) : Int)) (some (((n.val : Nat) : Int) + 1))).length ≤ 1 := by decide +kernel
    exact this ⟨n, hn⟩
  omega
theorem spelled_len {x : Str} (hx : x.length ≤ 2) (d : Int) : (spelled x d).length ≤ 40 := by
  unfold spelled
  have l1 : (Str.ofString "\"").length = 1 := by decide +kernel
  have l2 : (Str.ofString "\\\\").length = 2 := by decide +kernel
  have l3 : (Str.ofString "\\\"").length = 2 := by decide +kernel
  have l4 : (Str.ofString "\\").length = 1 := by decide +kernel
  have r1 := replace_len x (Str.ofString "\\") (Str.ofString "\\\\")
  have r2 := replace_len (Txt.replace x (Str.ofString "\\") (Str.ofString "\\\\")) (Str.ofString "\"") (Str.ofString "\\\"")
  rw [l2] at r1
  rw [l3] at r2
  rw [len_cat]
  have h1 : ∀ c, (one1 c).length = 1 := fun _ => rfl
  rw [h1]
  split
  · simp only [len_cat, l1]; omega
  · rw [len_join, List.map_map, sum_map_const _ 2 (fun c => by show (Str.ofString "\\" ++ one1 c).length = 2; rw [len_cat, l4]; rfl)]
    have : x.cps.toList.length = x.length := by simp [Str.length]
    omega
theorem name_len {n : Nat} (h : n < 2 ^ 64) : (nameOf n).length ≤ 16 := by
  unfold nameOf
  rw [len_join, List.map_map, sum_map_const ((fun x : Str => x.length) ∘ fun k : Int => (⟨#[k.toNat]⟩ : Str)) 1 (fun c => rfl)]
  have := ap_length 16 n (by have : (16:Nat)^16 = 2^64 := by decide
                             omega)
  omega
theorem stepText_len {st : Stp} (h1 : st.place < 2 ^ 63) (h2 : st.parent < 2 ^ 63) : (stepText st).length ≤ 80 := by
  unfold stepText
  have := name_len (n := st.place.toNat) (by omega)
  have := name_len (n := st.parent.toNat) (by omega)
  have := spelled_len (mark_len st.draw) st.draw
  have l : (Str.ofString " ").length = 1 := by decide +kernel
  simp only [len_cat, l]; omega
theorem fold_len {f : Stp → Str} {k : Nat} : ∀ (sts : List Stp) (x : Str), (∀ st ∈ sts, (f st).length ≤ k) → (sts.foldl (fun pg st => pg ++ f st) x).length ≤ x.length + sts.length * k
  | [], x, _ => by simp
  | a :: r, x, h => by
    rw [List.foldl_cons]
    refine Nat.le_trans (fold_len r _ fun st hs => h st (.tail _ hs)) ?_
    have := h a (.head _)
    rw [len_cat, List.length_cons, Nat.add_mul, Nat.one_mul]; omega

section
variable {C : Cx} {m : Str → Option Value} {nw : Ld} {d u : Nat} {p q : Pos}
theorem c_spelled {e e2 : Expr} {x : Str} {i : Int} (G : C.Good (d + 1) (u + 3)) (he : PE C m nw e (vS x)) (hx : x.length ≤ 2) (he2 : PE C m nw e2 (vI i)) (hst : ∀ rest, starEach (e :: rest) C.env = (false, eval e C.env) :: starEach rest C.env := by intro _; rfl) (hst2 : ∀ rest, starEach (e2 :: rest) C.env = (false, eval e2 C.env) :: starEach rest C.env := by intro _; rfl)
    (hl : C.env.kindOf "_law_spelled" = some .globalImplicit := by first | kernel_rfl | rfl) :
    PE C m nw (.Call (.Name "_law_spelled" p) [e, e2] [] q) (vS (spelled x i)) :=
  PX.callF G rfl (.cons he (.cons he2 .nil hst2) hst) (fun s vs g S av => by
    cases av with
    | cons p av => cases av with
      | cons p2 av => cases av; obtain ⟨t, rfl⟩ := p; obtain ⟨t', rfl⟩ := p2; exact fn_spelled G.ok g S.tk x hx i t t') hl
theorem c_name {e : Expr} {i : Int} (G : C.Good (d + 2) (u + 6)) (he : PE C m nw e (vI i)) (h0 : 0 ≤ i) (h1 : i < 2 ^ 64) (hst : ∀ rest, starEach (e :: rest) C.env = (false, eval e C.env) :: starEach rest C.env := by intro _; rfl)
    (hl : C.env.kindOf "_law_name" = some .globalImplicit := by first | kernel_rfl | rfl) :
    PE C m nw (.Call (.Name "_law_name" p) [e] [] q) (vS (nameOf i.toNat)) :=
  PX.callF G rfl (.cons he .nil hst) (fun s vs g S av => by
    cases av with
    | cons p av =>
      cases av; obtain ⟨t, rfl⟩ := p
      have := fn_name G.ok g S.tk i.toNat (by omega) t
      rwa [Int.toNat_of_nonneg h0] at this) hl
end

/-- the page and the words -/
def PageRes (pg : Str) (ws : List Str) : FP := fun v ext => ∃ r wl : Addr, v = .ref r ∧ ext = [(r, oT [vS pg, vIs (.ref wl)]), (wl, oL (ws.map vS))]

theorem fn_page {w : World} {A : Around} {d u : Nat} {s : Shared} (hk : Ok A (d + 3) (u + 9)) (g : GI w s.heap) (ht : 0 < s.toks) (hd : Int) (t : Tok) (a : Addr) (ts : List Addr) (sts : List Stp) (hs : StepsAt s.heap a ts sts) (hg : GoodSteps sts) :
    codeAny (model pg w) A (.call (.ref 141) ⟨[.int hd t, .ref a], []⟩) (RetX s (PageRes (pageOf hd sts) (wordsOf hd sts))) s := by
  refine fnCall (d := d + 2) (u := u + 6) hk g ht (f := 141) (binds := [("head", .int hd t), ("steps", .ref a)]) rfl rfl rfl (locs rfl) (fun L s₁ G S => ?_)
  have hb : ∀ st ∈ sts, st.place < 2 ^ 63 ∧ st.parent < 2 ^ 63 ∧ 0 ≤ st.place ∧ 0 ≤ st.parent ∧ st.place < 10 ∧ st.parent < 10 := fun st hm => by
    obtain ⟨i, hi⟩ := List.getElem?_of_mem hm
    have := hg.ok i st hi
    have := (List.getElem?_eq_some_iff.mp hi).1
    have := hg.hi
    omega
  refine s_assignS S (c_spelled (d := d + 1) (u := u + 3) G (c_mark (d := d + 1) (u := u + 3) G (PE.locI (t := t) rfl)) (mark_len hd) (PE.locI (t := t) rfl)) (fun t₁ s₂ S => ?_)
  refine s_assignN S (PN.list (.cons (c_mark (d := d + 1) (u := u + 3) G (PE.locI (t := t) rfl)) .nil) (by show 1 ≤ sizeLine; rw [sizeLine_eq]; decide)) (fun wl s₃ S => ?_)
  obtain ⟨k, hlist⟩ := hs.list
  have htl : (ts.map Value.ref).length = sts.length := by rw [List.length_map, hs.len]
  refine s_for (fixed := []) (fun i m₁ nw₁ => ∃ t, m₁ "page" = some (.str (pageOf hd (sts.take i)) t) ∧ m₁ "words" = some (.ref wl) ∧ nw₁ = [(wl, oL ((wordsOf hd (sts.take i)).map vS))]) S (PSrc.list (vs := ts.map Value.ref) (k := k) G.ok.handled (PE.loc (v := .ref a) rfl) (.inl hlist) (fun h => by rw [show (CF w 141 A s L).h₀.get? a = s.heap.get? a from rfl, hlist] at h; cases h))
    ⟨t₁, rfl, rfl, rfl⟩ (fun _ _ _ _ x hx => nomatch hx) (fun i v I oI m₁ nw₁ s₃ hi hv hI S => ?_) (fun m₁ nw₁ s₃ hI S => ?_)
  · obtain ⟨t', hp, hw, rfl⟩ := hI
    rw [htl] at hi
    have hst := List.getElem?_eq_getElem hi
    generalize sts[i] = st at hst
    obtain ⟨q1, q2, q3, q4, q5, q6⟩ := hb st (List.mem_of_getElem? hst)
    rw [List.getElem?_map] at hv
    cases htt : ts[i]? with
    | none => rw [htt] at hv; cases hv
    | some tt =>
    rw [htt] at hv
    have hv : v = .ref tt := (Option.some.inj hv).symm
    subst hv
    obtain ⟨o, ho, hO⟩ := hs.tup i tt st htt hst
    refine as_tupO ["place", "parent", "mark", "draw"] S G.ok.handled (.inl ⟨o, ho, hO⟩) (.cons (.cons (.cons (.cons .nil)))) rfl (by kernel_rfl) (by kernel_rfl) (fun vs s₄ av S => ?_)
    cases av with
    | cons p1 av => cases av with
      | cons p2 av => cases av with
        | cons p3 av => cases av with
          | cons p4 av =>
            cases av
            obtain ⟨u1, rfl⟩ := p1
            obtain ⟨u2, rfl⟩ := p2
            obtain ⟨u3, rfl⟩ := p3
            obtain ⟨u4, rfl⟩ := p4
            have htake : sts.take (i + 1) = sts.take i ++ [st] := by rw [List.take_add_one, hst]; rfl
            have hl1 := name_len (n := st.place.toNat) (by omega)
            have hl2 := name_len (n := st.parent.toNat) (by omega)
            have hl3 := spelled_len (mark_len st.draw) st.draw
            have hl4 : (Str.ofString " ").length = 1 := by decide +kernel
            have hlp : (pageOf hd (sts.take i)).length ≤ 40 + 5 * 80 := by
              have h1 := fold_len (f := stepText) (k := 80) (sts.take i) (spelled (mark hd) hd) (fun st hm => have := hb st (List.mem_of_mem_take hm); stepText_len this.1 this.2.1)
              have h2 := spelled_len (mark_len hd) hd
              have h3 : (sts.take i).length ≤ 5 := by rw [List.length_take]; have := hg.hi; omega
              unfold pageOf; omega
            refine s_augS S (y := pageOf hd (sts.take i)) (t := t') (by exact hp) (PE.cat (PE.cat (PE.cat (PE.cat (c_name (d := d) (u := u) G (PE.locI (t := u1) rfl) q3 (by omega)) PE.kS ?_) (c_name (d := d) (u := u) G (PE.locI (t := u2) rfl) q4 (by omega)) ?_) PE.kS ?_) (c_spelled (d := d + 1) (u := u + 3) G (PE.locS (t := u3) rfl) (mark_len _) (PE.locI (t := u4) rfl)) ?_) ?_ (fun t₅ s₅ S => ?_)
            · rw [hl4, sizeLine_eq]; omega
            · rw [len_cat, hl4, sizeLine_eq]; omega
            · simp only [len_cat, hl4]; rw [sizeLine_eq]; omega
            · simp only [len_cat, hl4]; rw [sizeLine_eq]; omega
            · simp only [len_cat, hl4]; rw [sizeLine_eq]; omega
            have hwl : (wordsOf hd (sts.take i)).length ≤ 16 := by
              unfold wordsOf
              have : ∀ l : List Stp, (l.flatMap stepWords).length = 3 * l.length := by
                intro l
                induction l with
                | nil => rfl
                | cons a r ih => rw [List.flatMap_cons, List.length_append, ih]; simp [stepWords]; omega
              rw [List.length_cons, this, List.length_take]; have := hg.hi; omega
            refine s_iaddL S (a := wl) (Ps := (wordsOf hd (sts.take i)).map vS) (by exact hw) (PN.list (.cons (PE.chr G rfl (by decide +kernel) (PE.add PE.kI (PE.locI (t := u1) rfl)) (by omega) (by omega)) (.cons (PE.chr G rfl (by decide +kernel) (PE.add PE.kI (PE.locI (t := u2) rfl)) (by omega) (by omega)) (.cons (PE.locS (t := u3) rfl) .nil))) (by show 3 ≤ sizeLine; rw [sizeLine_eq]; decide)) (.tail .head) (by simp; omega) (by simp) (fun s₆ S => ?_)
            refine s_nil ⟨_, _, S, t₅, ?_, rfl, ?_⟩
            · rw [htake]; unfold pageOf; rw [List.foldl_append]; rfl
            · have e : wordsOf hd (sts.take i ++ [st]) = wordsOf hd (sts.take i) ++ stepWords st := by
                unfold wordsOf; rw [List.flatMap_append, List.flatMap_cons, List.flatMap_nil, List.append_nil, List.cons_append]
              rw [htake, e, List.map_append]; rfl
  · rw [htl, List.take_of_length_le (Nat.le_refl _)] at hI
    obtain ⟨t', hp, hw, rfl⟩ := hI
    refine s_ret S (PN.tup (.cons (PE.locS (t := t') hp) (.cons (PE.loc (v := .ref wl) hw) .nil)) (by show 2 ≤ sizeLine; rw [sizeLine_eq]; decide)) (fun v ext s₄ f S => ?_)
    obtain ⟨r, rfl, rfl⟩ := f
    exact ⟨_, rfl, S.out rfl, _, ⟨r, wl, rfl, rfl⟩, S.fresh (List.Sublist.refl _)⟩
end
end Mine

-- part F8
namespace Mine
noncomputable section

def upOf (x : Str) : Int := ((asText x).length : Nat)
def downOf (x : Str) : Int := ((asValue x).length : Nat)
structure Sig where
  total : Int
  product : Int
  turned : Int
  out : List Int
def dueStep (lead : Int) (σ : Sig) (st : Stp) : Sig :=
  let up := upOf (mark st.draw)
  let down := downOf (mark st.draw)
  ⟨σ.total * (up + down) + up * down * σ.product, σ.product * (up + down), -σ.turned, σ.out ++ [-σ.turned * (lead * (σ.product * (up + down)) + (σ.total * (up + down) + up * down * σ.product))]⟩
def dueSig (hd : Int) (sts : List Stp) : Sig := sts.foldl (dueStep (upOf (mark hd))) ⟨0, 1, 1, [upOf (mark hd)]⟩

theorem table_len {l : List (Str × Str)} {x : Str} (h : ∀ p ∈ l, p.2.length ≤ 6) (hx : x.length ≤ 2) : (Txt.join (Str.ofString "") (x.cps.toList.map (mapped l))).length ≤ 12 := by
  rw [len_join]
  have := mapped_sum (l := l) (x := x) h
  omega
theorem up_bound (d : Int) : 0 ≤ upOf (mark d) ∧ upOf (mark d) ≤ 12 := by
  have := table_len (l := refsT) (x := mark d) (by decide +kernel) (mark_len d)
  unfold upOf asText; omega
theorem down_bound (d : Int) : 0 ≤ downOf (mark d) ∧ downOf (mark d) ≤ 12 := by
  have := table_len (l := refsV) (x := mark d) (by decide +kernel) (mark_len d)
  unfold downOf asValue; omega
theorem small64 {x : Int} (h : -1000 ≤ x ∧ x ≤ 1000) : -(2 ^ 64) < x ∧ x < 2 ^ 64 := by omega

section
variable {C : Cx} {m : Str → Option Value} {nw : Ld} {d u : Nat} {p q : Pos}
theorem PE.lenS {x : Str} {a : Expr} {y : Str} (G : C.Good d u) (hx : nsIn (KF C.w) mainGlobals x = some none) (hv : bootBuiltins x = some (.builtin "len")) (ha : PE C m nw a (vS y)) (hz : (y.length : Int) < 2 ^ 63)
    (hst : ∀ rest, starEach (a :: rest) C.env = (false, eval a C.env) :: starEach rest C.env := by intro _; rfl)
    (hn : x ≠ "__name__" := by decide +kernel) (hk : C.env.kindOf x = some .globalImplicit := by first | kernel_rfl | rfl) (hd : (x == ("__debug__" : Str)) = false := by decide +kernel) : PE C m nw (.Call (.Name x p) [a] [] q) (vI y.length) :=
  PX.callB G hx hv (.cons ha .nil hst) (fun s vs' S av => TX.tok fun E Q h => by
    cases av with
    | cons e av => cases av; obtain ⟨t, rfl⟩ := e; exact PyProof.Rows.len_str (Int.not_le.mpr hz) (h _ _ ⟨_, rfl⟩)) hn hk hd
theorem c_text {e : Expr} {x : Str} (G : C.Good (d + 1) (u + 3)) (he : PE C m nw e (vS x)) (hx : x.length ≤ 100000) (hst : ∀ rest, starEach (e :: rest) C.env = (false, eval e C.env) :: starEach rest C.env := by intro _; rfl)
    (hl : C.env.kindOf "_law_as_text" = some .globalImplicit := by first | kernel_rfl | rfl) : PE C m nw (.Call (.Name "_law_as_text" p) [e] [] q) (vS (asText x)) :=
  PX.callF G rfl (.cons he .nil hst) (fun s vs g S av => by
    cases av with
    | cons p av => cases av; obtain ⟨t, rfl⟩ := p; exact fn_text G.ok g S.tk x hx t) hl
theorem c_value {e : Expr} {x : Str} (G : C.Good (d + 1) (u + 3)) (he : PE C m nw e (vS x)) (hx : x.length ≤ 100000) (hst : ∀ rest, starEach (e :: rest) C.env = (false, eval e C.env) :: starEach rest C.env := by intro _; rfl)
    (hl : C.env.kindOf "_law_as_value" = some .globalImplicit := by first | kernel_rfl | rfl) : PE C m nw (.Call (.Name "_law_as_value" p) [e] [] q) (vS (asValue x)) :=
  PX.callF G rfl (.cons he .nil hst) (fun s vs g S av => by
    cases av with
    | cons p av => cases av; obtain ⟨t, rfl⟩ := p; exact fn_value G.ok g S.tk x hx t) hl
end

theorem fn_due {w : World} {A : Around} {d u : Nat} {s : Shared} (hk : Ok A (d + 2) (u + 6)) (g : GI w s.heap) (ht : 0 < s.toks) (hd : Int) (t : Tok) (a : Addr) (ts : List Addr) (sts : List Stp) (hs : StepsAt s.heap a ts sts) (hg : sts.length ≤ 5) :
    codeAny (model pg w) A (.call (.ref 182) ⟨[.int hd t, .ref a], []⟩) (RetX s (pn (oL ((dueSig hd sts).out.map vI)))) s := by
  refine fnCall (d := d + 1) (u := u + 3) hk g ht (f := 182) (binds := [("head", .int hd t), ("steps", .ref a)]) rfl rfl rfl (locs rfl) (fun L s₁ G S => ?_)
  have hul := up_bound hd
  have hml : ∀ x, (mark x).length ≤ 100000 := fun x => Nat.le_trans (mark_len x) (by decide)
  refine s_assignI S (i := upOf (mark hd)) (PE.lenS G rfl (by decide +kernel) (c_text G (c_mark G (PE.locI (t := t) rfl)) (hml _)) (by show upOf (mark hd) < _; omega)) (fun t₁ s₂ S => ?_)
  refine s_assignI S PE.kI (fun t₂ s₂ S => ?_)
  refine s_assignI S PE.kI (fun t₃ s₂ S => ?_)
  refine s_assignI S PE.kI (fun t₄ s₂ S => ?_)
  refine s_assignN S (PN.list (.cons (PE.locI (t := t₁) rfl) .nil) (by show 1 ≤ sizeLine; rw [sizeLine_eq]; decide)) (fun wl s₃ S => ?_)
  obtain ⟨k, hlist⟩ := hs.list
  have htl : (ts.map Value.ref).length = sts.length := by rw [List.length_map, hs.len]
  refine s_for (fixed := []) (fun i m₁ nw₁ => ∃ t₂ t₃ t₄, m₁ "lead" = some (.int (upOf (mark hd)) t₁) ∧ m₁ "total" = some (.int (dueSig hd (sts.take i)).total t₂) ∧ m₁ "product" = some (.int (dueSig hd (sts.take i)).product t₃) ∧ m₁ "turned" = some (.int (dueSig hd (sts.take i)).turned t₄) ∧ ((dueSig hd (sts.take i)).turned = 1 ∨ (dueSig hd (sts.take i)).turned = -1) ∧ (dueSig hd (sts.take i)).out.length = i + 1 ∧
      m₁ "due" = some (.ref wl) ∧ nw₁ = [(wl, oL ((dueSig hd (sts.take i)).out.map vI))]) S (PSrc.list (vs := ts.map Value.ref) (k := k) G.ok.handled (PE.loc (v := .ref a) rfl) (.inl hlist) (fun h => by rw [show (CF w 182 A s L).h₀.get? a = s.heap.get? a from rfl, hlist] at h; cases h))
    ⟨t₂, t₃, t₄, rfl, rfl, rfl, rfl, .inl rfl, rfl, rfl, rfl⟩ (fun _ _ _ _ x hx => nomatch hx) (fun i v I oI m₁ nw₁ s₃ hi hv hI S => ?_) (fun m₁ nw₁ s₃ hI S => ?_)
  · obtain ⟨t₂, t₃, t₄, hm1, hm2, hm3, hm4, htu, hol, hw, rfl⟩ := hI
    rw [htl] at hi
    have hst := List.getElem?_eq_getElem hi
    generalize sts[i] = st at hst
    rw [List.getElem?_map] at hv
    cases htt : ts[i]? with
    | none => rw [htt] at hv; cases hv
    | some tt =>
    rw [htt] at hv
    have hv : v = .ref tt := (Option.some.inj hv).symm
    subst hv
    obtain ⟨o, ho, hO⟩ := hs.tup i tt st htt hst
    refine as_tupO ["place", "parent", "mark", "draw"] S G.ok.handled (.inl ⟨o, ho, hO⟩) (.cons (.cons (.cons (.cons .nil)))) rfl (by kernel_rfl) (by kernel_rfl) (fun vs s₄ av S => ?_)
    cases av with
    | cons p1 av => cases av with
      | cons p2 av => cases av with
        | cons p3 av => cases av with
          | cons p4 av =>
            cases av
            obtain ⟨u1, rfl⟩ := p1
            obtain ⟨u2, rfl⟩ := p2
            obtain ⟨u3, rfl⟩ := p3
            obtain ⟨u4, rfl⟩ := p4
            have htake : dueSig hd (sts.take (i + 1)) = dueStep (upOf (mark hd)) (dueSig hd (sts.take i)) st := by
              rw [List.take_add_one, hst]; unfold dueSig; rw [List.foldl_append]; rfl
            generalize dueSig hd (sts.take i) = σ at hm2 hm3 hm4 htu hol S htake
            obtain ⟨b1, b2⟩ := up_bound st.draw
            obtain ⟨b3, b4⟩ := down_bound st.draw
            refine s_assignI S (i := upOf (mark st.draw)) (PE.lenS G rfl (by decide +kernel) (c_text G (PE.locS (t := u3) rfl) (hml _)) (by show upOf (mark st.draw) < _; omega)) (fun t₅ s₅ S => ?_)
            refine s_assignI S (i := downOf (mark st.draw)) (PE.lenS G rfl (by decide +kernel) (c_value G (PE.locS (t := u3) rfl) (hml _)) (by show downOf (mark st.draw) < _; omega)) (fun t₆ s₅ S => ?_)
            have hud : 0 ≤ upOf (mark st.draw) * downOf (mark st.draw) ∧ upOf (mark st.draw) * downOf (mark st.draw) ≤ 144 := ⟨Int.mul_nonneg b1 b3, Int.le_trans (Int.mul_le_mul_of_nonneg_left b4 b1) (Int.mul_le_mul_of_nonneg_right b2 (by decide))⟩
            have m64 : ∀ x y : Int, -1000 ≤ x → x ≤ 1000 → IntMulOk x y := fun x y h1 h2 => intMul64 (by omega) (by omega)
            have m64r : ∀ x y : Int, -1000 ≤ y → y ≤ 1000 → IntMulOk x y := fun x y h1 h2 => IntMulOk.of_right (intBits_le_64 (by omega) (by omega))
            refine s_assignI S (PE.add (PE.mul (PE.locI (t := t₂) (i := σ.total) (by exact hm2)) (PE.add (PE.locI (t := t₅) (i := upOf (mark st.draw)) rfl) (PE.locI (t := t₆) (i := downOf (mark st.draw)) rfl)) (m64r _ _ (by omega) (by omega))) (PE.mul (PE.mul (PE.locI (t := t₅) (i := upOf (mark st.draw)) rfl) (PE.locI (t := t₆) (i := downOf (mark st.draw)) rfl) (m64 _ _ (by omega) (by omega))) (PE.locI (t := t₃) (i := σ.product) (by exact hm3)) (m64 _ _ (by omega) (by omega)))) (fun t₇ s₅ S => ?_)
            refine s_assignI S (PE.mul (PE.locI (t := t₃) (i := σ.product) (by exact hm3)) (PE.add (PE.locI (t := t₅) (i := upOf (mark st.draw)) rfl) (PE.locI (t := t₆) (i := downOf (mark st.draw)) rfl)) (m64r _ _ (by omega) (by omega))) (fun t₈ s₅ S => ?_)
            refine s_assignI S (PE.neg (PE.locI (t := t₄) (i := σ.turned) (by exact hm4))) (fun t₉ s₅ S => ?_)
            refine s_append S (PE.loc (v := .ref wl) (by exact hw)) (.tail _ (.head _)) (by rw [List.length_map, hol, sizeLine_eq]; omega)
              (PE.mul (PE.locI (t := t₉) (i := -σ.turned) rfl) (PE.add (PE.mul (PE.locI (t := t₁) (i := upOf (mark hd)) (by exact hm1)) (PE.locI (t := t₈) (i := σ.product * (upOf (mark st.draw) + downOf (mark st.draw))) rfl) (m64 _ _ (by omega) (by omega))) (PE.locI (t := t₇) (i := σ.total * (upOf (mark st.draw) + downOf (mark st.draw)) + upOf (mark st.draw) * downOf (mark st.draw) * σ.product) rfl)) (m64 _ _ (by omega) (by omega))) (fun v ext s₆ f S => ?_)
            obtain ⟨pv, rfl⟩ := f
            refine ⟨_, _, pv, .tail .head, fun s₇ S => ?_⟩
            refine s_nil ⟨_, _, S, ?_⟩
            rw [htake]
            refine ⟨t₇, t₈, t₉, hm1, rfl, rfl, rfl, ?_, ?_, hw, ?_⟩
            · show -σ.turned = 1 ∨ -σ.turned = -1
              omega
            · show (σ.out ++ [_]).length = _
              rw [List.length_append, hol]; rfl
            · show _ = [(wl, oL ((σ.out ++ [_]).map vI))]
              rw [List.map_append]; rfl
  · rw [htl, List.take_of_length_le (Nat.le_refl _)] at hI
    obtain ⟨t₂, t₃, t₄, hm1, hm2, hm3, hm4, htu, hol, hw, rfl⟩ := hI
    refine s_ret S (PE.loc (v := .ref wl) hw) (fun v ext s₄ h S => ?_)
    obtain ⟨h1, rfl⟩ := h
    have h1 : v = _ := h1
    subst h1
    exact ⟨_, rfl, S.out rfl, _, ⟨wl, rfl, rfl⟩, S.fresh (List.Sublist.refl _)⟩
end
end Mine

-- part F9
namespace Mine
noncomputable section

def hopsN (par : Nat → Nat) : Nat → Nat → Nat → Nat
  | 0, _, _ => 0
  | f + 1, a, b => if a = b then 0 else if b < a then hopsN par f (par a) b + 1 else hopsN par f a (par b) + 1
/-- the dict of the places above -/
structure ParAt (w : World) (h : Heap) (P : Addr) (n : Nat) (par : Nat → Nat) : Prop where
  obj : ∃ (N : Nat) (f : Int → Option VP) (o : Obj), h.get? P = some o ∧ oD (intKind pg w) N f o ∧ ∀ k : Nat, 2 ≤ k → k ≤ n → f k = some (vI (par k))
  lo : ∀ k, 2 ≤ k → k ≤ n → 1 ≤ par k ∧ par k < k

structure HopI (par : Nat → Nat) (n P total : Nat) (k : Nat) (m₁ : Str → Option Value) (a b c : Nat) (t t' t'' : Tok) : Prop where
  here : m₁ "here" = some (.int a t)
  there : m₁ "there" = some (.int b t')
  hops : m₁ "hops" = some (.int c t'')
  dict : m₁ "parents" = some (.ref P)
  sum : c + hopsN par k a b = total
  le : a + b ≤ k
  ra : 1 ≤ a ∧ a ≤ n
  rb : 1 ≤ b ∧ b ≤ n

theorem fn_hops {w : World} {A : Around} {d u : Nat} {s : Shared} (hk : Ok A (d + 1) (u + 3)) (g : GI w s.heap) (ht : 0 < s.toks) (P : Addr) (n : Nat) (par : Nat → Nat) (hP : ParAt w s.heap P n par) (a b : Nat) (ha : 1 ≤ a ∧ a ≤ n) (hb : 1 ≤ b ∧ b ≤ n) (t t' : Tok) :
    codeAny (model pg w) A (.call (.ref 155) ⟨[.ref P, .int a t, .int b t'], []⟩) (RetX s (pv (vI (hopsN par (a + b) a b)))) s := by
  refine fnCall hk g ht (f := 155) (binds := [("parents", .ref P), ("here", .int a t), ("there", .int b t')]) rfl rfl rfl (locs rfl) (fun L s₁ G S => ?_)
  refine s_assignI S PE.kI (fun t₁ s₂ S => ?_)
  obtain ⟨N, f, o, ho, hO, hf⟩ := hP.obj
  refine s_while (fun k m₁ nw₁ => ∃ a' b' c t t' t'', HopI par n P (hopsN par (a + b) a b) k m₁ a' b' c t t' t'') (a + b) S ⟨a, b, 0, t, t', t₁, rfl, rfl, rfl, rfl, by omega, Nat.le_refl _, ha, hb⟩ ?_
  rintro k m₁ nw₁ s₃ ⟨a', b', c, u1, u2, u3, I⟩ S₃
  have hD : Has (CF w 155 A s L) nw₁ P (oD (intKind pg w) N f) := .inl ⟨o, ho, hO⟩
  refine ⟨_, PT.neI (PE.locI I.here) (PE.locI I.there), fun hb s₄ S => ?_, fun hb s₄ S => ?_⟩
  · have hne : a' ≠ b' := by rintro rfl; simp at hb
    obtain ⟨k, rfl⟩ : ∃ k', k = k' + 1 := ⟨k - 1, by have := I.le; have := I.ra; omega⟩
    have hs := I.sum
    rw [hopsN, if_neg hne] at hs
    have hra := I.ra; have hrb := I.rb; have hle := I.le
    refine s_if S (PT.gtI (PE.locI I.here) (PE.locI I.there)) (fun hb s₅ S => ?_) (fun hb s₅ S => ?_)
    · have hgt : b' < a' := by have := of_decide_eq_true hb; omega
      rw [if_pos hgt] at hs
      have hp := hP.lo a' (by omega) hra.2
      refine s_assignI S (PE.idxD (knd := intKind pg w) (n := N) (f := f) (k := (a' : Int)) (PE.loc I.dict) hD (PE.locI I.here) (fun v e => by obtain ⟨t, rfl⟩ := e; exact intKind_is _ _ _ _) (hf a' (by omega) hra.2) (fun v e => by obtain ⟨t, rfl⟩ := e; with_unfolding_all rfl)) (fun t₂ s₆ S => s_nil ?_)
      refine s_augI S (i := c) (t := u3) I.hops PE.kI (fun t₃ s₇ S => s_nil ⟨k, _, _, Nat.lt_succ_self _, ?_, S⟩)
      exact ⟨par a', b', c + 1, t₂, u2, t₃, rfl, I.there, rfl, I.dict, by omega, by omega, by omega, hrb⟩
    · have hgt : ¬ b' < a' := by have := of_decide_eq_false hb; omega
      rw [if_neg hgt] at hs
      have hp := hP.lo b' (by omega) hrb.2
      refine s_assignI S (PE.idxD (knd := intKind pg w) (n := N) (f := f) (k := (b' : Int)) (PE.loc I.dict) hD (PE.locI I.there) (fun v e => by obtain ⟨t, rfl⟩ := e; exact intKind_is _ _ _ _) (hf b' (by omega) hrb.2) (fun v e => by obtain ⟨t, rfl⟩ := e; with_unfolding_all rfl)) (fun t₂ s₆ S => s_nil ?_)
      refine s_augI S (i := c) (t := u3) I.hops PE.kI (fun t₃ s₇ S => s_nil ⟨k, _, _, Nat.lt_succ_self _, ?_, S⟩)
      exact ⟨a', par b', c + 1, u1, t₂, t₃, I.here, rfl, rfl, I.dict, by omega, by omega, hra, by omega⟩
  · have he : a' = b' := by have : ¬ ((a' : Int) ≠ b') := by simpa using hb
                            omega
    subst he
    have hs := I.sum
    have h0 : hopsN par k a' a' = 0 := by cases k <;> simp [hopsN]
    rw [h0, Nat.add_zero] at hs
    refine s_ret S (PE.locI I.hops) (fun v ext s₅ h S => ?_)
    rw [hs] at h
    exact ⟨v, rfl, S.out rfl, [], ⟨h.1, rfl⟩, Fresh.nil⟩
end
end Mine

-- part F10
namespace Mine
noncomputable section

section
variable {C : Cx} {m : Str → Option Value} {nw : Ld} {s : Shared} {Q : Flow → Shared → Prop} {rest body : List Stmt} {p q : Pos} {d u : Nat}
/-- list(xs) -/
theorem PN.listOf {x : Str} {a : Expr} {l : Addr} {Ps : List VP} (G : C.Good d u) (hx : nsIn (KF C.w) mainGlobals x = some none) (hv : bootBuiltins x = some (.type "list")) (ha : PE C m nw a (vIs (.ref l))) (hl : Has C nw l (oL Ps)) (hz : Ps.length ≤ sizeLine)
    (hst : ∀ rest, starEach (a :: rest) C.env = (false, eval a C.env) :: starEach rest C.env := by intro _; rfl)
    (hn : x ≠ "__name__" := by decide +kernel) (hk : C.env.kindOf x = some .globalImplicit := by first | kernel_rfl | rfl) (hd : (x == ("__debug__" : Str)) = false := by decide +kernel) : PN C m nw (.Call (.Name x p) [a] [] q) (oL Ps) :=
  PX.callT G hx hv (.cons ha .nil hst) (fun s vs S av => TX.new fun E Q h => by
    cases av with
    | cons e av =>
      cases av
      have e : _ = Value.ref l := e
      subst e
      obtain ⟨o, ho, vs, k, rfl, av⟩ := hl.get S
      exact call_list_seq l (.inl rfl) ho rfl rfl (fun h' c' hk hn => h _ _ h' s.toks (Nat.le_refl _) hk hn ⟨vs, c', rfl, av⟩) (by rw [List.size_toArray, av.length]; exact hz)) hn hk hd
/-- xs[i] = e, a number into a new list -/
theorem s_setIdx {od oi e : Expr} {a : Addr} {Ps : List VP} {P : VP} {i : Int} {sp : Pos} (S : C.St m nw s) (he : PE C m nw e P) (ho : PE C m nw od (vIs (.ref a))) (hi : PE C m nw oi (vI i)) (h0 : 0 ≤ i) (h1 : i < Ps.length) (hz : i < 2 ^ 63)
    (h : ∃ nw', Ch a (oL Ps) (oL (Ps.set i.toNat P)) nw nw' ∧ ∀ s₂, C.St m nw' s₂ → Ex C rest Q s₂)
    (hs : swapsWith e (some (.Subscript od oi sp)) p.line C.env = pure false := by first | kernel_rfl | rfl) :
    Ex C (.Assign [.Subscript od oi sp] e p :: rest) Q s := by
  obtain ⟨nw', hch, g⟩ := h
  refine ex_cons (wpAny_Assign_Subscript (he.go S fun v s₁ k₁ S₁ pv => ho.go S₁ fun v' s₂ k₂ S₂ e₂ => hi.go S₂ fun v'' s₃ k₃ S₃ e₃ => ?_) hs)
  have e₂ : v' = .ref a := e₂
  subst e₂
  obtain ⟨ti, rfl⟩ := e₃
  obtain ⟨o, hg, vs, kk, rfl, av⟩ := S₃.at hch.mem
  refine ki_setAt (n := kk) hg h0 hz (by rw [List.size_toArray, av.length]; omega) ?_
  refine g _ (S₃.ch (k := s₃.toks) hch (Heap.SameBut.update ..) (IsL.update hg _) ⟨vs.set i.toNat v, kk, ?_, av.set pv _⟩ (Nat.le_refl _))
  show ({ cls := .type "list", data := .seq (vs.toArray.setIfInBounds i.toNat _) (if (vs.toArray.setIfInBounds i.toNat _).size == vs.toArray.size then kk else kk + 1) } : Obj) = W.listOf _ kk
  rw [if_pos (by simp)]
  simp [W.listOf]
end

/-- a row, and the rows of a table -/
def rowO (n : Nat) (f : Nat → Int) : OP := oL ((List.range n).map fun j => vI (f j))
def rowLd (n : Nat) (r : Nat → Addr) (f : Nat → Nat → Int) : Ld := (List.range n).map fun i => (r i, rowO n (f i))
theorem rowO.at {n : Nat} {f : Nat → Int} {j : Nat} (h : j < n) : ((List.range n).map fun j => vI (f j))[j]? = some (vI (f j)) := by
  rw [List.getElem?_map, List.getElem?_range h]; rfl
theorem rowLd.mem {n : Nat} {r : Nat → Addr} {f : Nat → Nat → Int} {i : Nat} (h : i < n) : (r i, rowO n (f i)) ∈ rowLd n r f :=
  List.mem_map.mpr ⟨i, List.mem_range.mpr h, rfl⟩
theorem Ch.map {r : Nat → Addr} {f g : Nat → OP} {i : Nat} : ∀ {l : List Nat}, i ∈ l → l.Nodup → (∀ j, j ≠ i → g j = f j) → Ch (r i) (f i) (g i) (l.map fun j => (r j, f j)) (l.map fun j => (r j, g j))
  | [], h, _, _ => nomatch h
  | j :: l, h, hn, he => by
    rw [List.nodup_cons] at hn
    by_cases hj : j = i
    · subst hj
      have : (l.map fun j => (r j, g j)) = l.map fun j => (r j, f j) := List.map_congr_left fun k hk => by rw [he k (fun e => hn.1 (e ▸ hk))]
      rw [List.map_cons, List.map_cons, this]
      exact .head
    · rw [List.map_cons, List.map_cons, he j hj]
      exact .tail (Ch.map ((List.mem_cons.mp h).resolve_left fun e => hj e.symm) hn.2 he)
theorem rowLd.ch {n : Nat} {r : Nat → Addr} {f g : Nat → Nat → Int} {i : Nat} (h : i < n) (he : ∀ j, j ≠ i → g j = f j) : Ch (r i) (rowO n (f i)) (rowO n (g i)) (rowLd n r f) (rowLd n r g) :=
  Ch.map (f := fun j => rowO n (f j)) (g := fun j => rowO n (g j)) (List.mem_range.mpr h) List.nodup_range fun j hj => by rw [he j hj]
theorem set_row {n : Nat} {f : Nat → Int} {j : Nat} {x : Int} : ((List.range n).map fun k => vI (f k)).set j (vI x) = (List.range n).map fun k => vI (if k = j then x else f k) := by
  apply List.ext_getElem?
  intro k
  rw [List.getElem?_set, List.getElem?_map, List.getElem?_map, List.length_map, List.length_range]
  by_cases hk : k < n
  · rw [List.getElem?_range hk]
    by_cases hj : j = k
    · subst hj; simp [hk]
    · have : ¬ k = j := fun e => hj e.symm
      simp [hj, this]
  · rw [List.getElem?_eq_none (by simpa using hk)]
    by_cases hj : j = k
    · subst hj; simp [hk]
    · simp [hj]

/-- the steps of the elimination -/
structure Bar (n : Nat) (R : Nat → Nat → Nat → Int) : Prop where
  nz : ∀ k, k < n → R k k k ≠ 0
  bd : ∀ k i j, k ≤ i → k ≤ j → i < n → j < n → -(2 ^ 64) < R k i j ∧ R k i j < 2 ^ 64
  step : ∀ k i j, k < i → k < j → i < n → j < n → R (k + 1) i j * (if k = 0 then 1 else R (k - 1) (k - 1) (k - 1)) = R k i j * R k k k - R k i k * R k k j
/-- the table after k steps -/
def barE (R : Nat → Nat → Nat → Int) (k i j : Nat) : Int := R (min k (min i j)) i j
/-- within a step: the rows ahead of i are done, and of row i the places ahead of j -/
def barM (R : Nat → Nat → Nat → Int) (k i j i' j' : Nat) : Int := if i' < i ∨ (i' = i ∧ j' < j) then barE R (k + 1) i' j' else barE R k i' j'

end
end Mine

-- part F11
namespace Mine
noncomputable section

theorem range_small {lo hi : Nat} (h1 : lo ≤ 100) (h2 : hi ≤ 100) : Builtin.Range.small (lo : Int) (hi : Int) 1 = true ∧ Builtin.Range.rangeSize (lo : Int) (hi : Int) 1 = ((hi - lo : Nat) : Int) := by
  constructor
  · have : ∀ a b : Fin 101, Builtin.Range.small ((a.val : Nat) : Int) ((b.val : Nat) : Int) 1 = true := by decide +kernel
    exact this ⟨lo, by omega⟩ ⟨hi, by omega⟩
  · unfold Builtin.Range.rangeSize
    rw [if_pos (by decide)]
    split <;> omega

structure TableAt (h : Heap) (T : Addr) (n : Nat) (tr : Nat → Addr) (M : Nat → Nat → Int) : Prop where
  list : ∃ k, h.get? T = some (W.listOf (((List.range n).map fun i => Value.ref (tr i)).toArray) k)
  row : ∀ i, i < n → ∃ o, h.get? (tr i) = some o ∧ rowO n (M i) o

theorem rowLd.congr {n : Nat} {r : Nat → Addr} {f g : Nat → Nat → Int} (h : ∀ i j, i < n → j < n → f i j = g i j) : rowLd n r f = rowLd n r g :=
  List.map_congr_left fun i hi => by
    have hi := List.mem_range.mp hi
    have : (List.range n).map (fun j => vI (f i j)) = (List.range n).map fun j => vI (g i j) := List.map_congr_left fun j hj => by rw [h i j hi (List.mem_range.mp hj)]
    unfold rowO; rw [this]
def colL (r : Nat → Addr) (n : Nat) : OP := oL ((List.range n).map fun i => vIs (.ref (r i)))
theorem colL.at {n : Nat} {r : Nat → Addr} {j : Nat} (h : j < n) : ((List.range n).map fun i => vIs (.ref (r i)))[j]? = some (vIs (.ref (r j))) := by
  rw [List.getElem?_map, List.getElem?_range h]; rfl
theorem ME.permX {C : Cx} {m : Str → Option Value} {nw : Ld} {e : Expr} {F F' : Value → Ld → Prop} (h : ME C m nw e F) (hp : ∀ v nw', F v nw' → ∃ nw'', nw'.Perm nw'' ∧ F' v nw'') : ME C m nw e F' :=
  ⟨fun s S => h.go S fun v nw' s' f S' => let ⟨nw'', p, f'⟩ := hp v nw' f; ⟨nw'', f', S'.perm p⟩⟩

def lastR (R : Nat → Nat → Nat → Int) (k : Nat) : Int := if k = 0 then 1 else R (k - 1) (k - 1) (k - 1)
structure MinI (R : Nat → Nat → Nat → Int) (n : Nat) (D mm : Addr) (k : Nat) (m : Str → Option Value) : Prop where
  rows : m "rows" = some (.ref D)
  mins : m "minors" = some (.ref mm)
  last : ∃ t, m "last" = some (.int (lastR R k) t)
structure MinJ (R : Nat → Nat → Nat → Int) (n : Nat) (D mm : Addr) (k : Nat) (m : Str → Option Value) : Prop extends MinI R n D mm k m where
  hk : ∃ t, m "k" = some (.int (k : Int) t)
  hp : ∃ t, m "pivot" = some (.int (R k k k) t)
structure MinK (R : Nat → Nat → Nat → Int) (n : Nat) (D mm : Addr) (k i : Nat) (m : Str → Option Value) : Prop extends MinJ R n D mm k m where
  hi : ∃ t, m "i" = some (.int (i : Int) t)

theorem fn_minors {w : World} {A : Around} {d u : Nat} {s : Shared} (hk : Ok A (d + 1) (u + 3)) (g : GI w s.heap) (ht : 0 < s.toks) (T : Addr) (n : Nat) (tr : Nat → Addr) (R : Nat → Nat → Nat → Int) (hT : TableAt s.heap T n tr (R 0)) (hB : Bar n R) (hn : n ≤ 6) :
    codeAny (model pg w) A (.call (.ref 165) ⟨[.ref T], []⟩) (RetX s (pn (oL ((List.range n).map fun k => vI (R k k k))))) s := by
  refine fnCall hk g ht (f := 165) (binds := [("table", .ref T)]) rfl rfl rfl (locs rfl) (fun L s₁ G S => ?_)
  obtain ⟨k, hlist⟩ := hT.list
  have hz6 : n ≤ sizeLine := by rw [sizeLine_eq]; omega
  refine s_assignCompM (fun i nw₁ Ps => ∃ r : Nat → Addr, nw₁ = ((List.range i).map fun q => (r q, rowO n (R 0 q))).reverse ∧ Ps = (List.range i).map fun q => vIs (.ref (r q))) S
    (PSrc.list (vs := (List.range n).map fun i => Value.ref (tr i)) (k := k) (fixed := []) G.ok.handled (PE.loc (v := .ref T) rfl) (.inl hlist) (fun h => nomatch h.symm.trans hlist)) (by rw [List.length_map, List.length_range]; exact hz6) (cl := []) (by kernel_rfl) ⟨fun _ => 0, rfl, rfl⟩ (fun _ _ _ _ x hx => nomatch hx) (fun i v L' X m' nw₁ Ps hi hv hI hm => ?_) (fun D nw₁ Ps s₂ hI S => ?_)
  · obtain ⟨r, rfl, rfl⟩ := hI
    rw [List.length_map, List.length_range] at hi
    have hv : v = .ref (tr i) := by
      have e : ((List.range n).map fun i => Value.ref (tr i))[i]? = some (Value.ref (tr i)) := by rw [List.getElem?_map, List.getElem?_range hi]; rfl
      exact (Option.some.inj (e.symm.trans hv)).symm
    subst hv
    refine ((PN.listOf (Cx.comp_good G rfl) rfl (by decide +kernel) (PE.loc hm) (.inl (hT.row i hi)) (by simpa using hz6)).me (F' := fun v nw' => ∃ a, v = .ref a ∧ nw' = (a, rowO n (R 0 i)) :: (X ++ ((List.range i).map fun q => (r q, rowO n (R 0 q))).reverse)) (fun v ext h => ?_)).permX (fun v nw' h => ?_)
    · obtain ⟨a, rfl, rfl⟩ := h; exact ⟨a, rfl, rfl⟩
    · obtain ⟨a, rfl, rfl⟩ := h
      have e1 : ∀ q, q < i → (fun q => if q = i then a else r q) q = r q := fun q hq => if_neg (Nat.ne_of_lt hq)
      refine ⟨X ++ ((List.range (i + 1)).map fun q => ((fun q => if q = i then a else r q) q, rowO n (R 0 q))).reverse, ?_, vIs (.ref a), _, rfl, rfl, fun q => if q = i then a else r q, rfl, ?_⟩
      · rw [List.range_succ, List.map_append, List.reverse_append]
        have : (List.range i).map (fun q => ((fun q => if q = i then a else r q) q, rowO n (R 0 q))) = (List.range i).map fun q => (r q, rowO n (R 0 q)) := List.map_congr_left fun q hq => by rw [e1 q (List.mem_range.mp hq)]
        rw [this]
        simp only [List.map_cons, List.map_nil, if_true, List.reverse_cons, List.reverse_nil, List.nil_append, List.cons_append]
        exact List.perm_middle.symm
      · rw [List.range_succ, List.map_append]
        have : (List.range i).map (fun q => vIs (.ref ((fun q => if q = i then a else r q) q))) = (List.range i).map fun q => vIs (.ref (r q)) := List.map_congr_left fun q hq => by rw [e1 q (List.mem_range.mp hq)]
        rw [this]
        simp
  · rw [List.length_map, List.length_range] at hI
    obtain ⟨r, rfl, rfl⟩ := hI
    have S := S.perm (nw' := (D, colL r n) :: rowLd n r (barE R 0)) (by
      refine List.Perm.cons _ ((List.reverse_perm _).trans ?_)
      rw [show (List.range n).map (fun q => (r q, rowO n (R 0 q))) = rowLd n r (R 0) from rfl, rowLd.congr (g := barE R 0) fun i j _ _ => by simp [barE]])
    refine s_assignI S PE.kI (fun t₁ s₃ S => ?_)
    refine s_assignN S (PN.list .nil (by decide)) (fun mm s₃ S => ?_)
    refine s_for (n := n) (fixed := []) (fun k m₁ nw₁ => MinI R n D mm k m₁ ∧ nw₁ = (mm, oL ((List.range k).map fun q => vI (R q q q))) :: (D, colL r n) :: rowLd n r (barE R k)) S
      (PSrc.rangeOf (lo := 0) (hi := (n : Int)) (st := 1) G.ok.handled (range_small (lo := 0) (hi := n) (by omega) (by omega)).1 (range_small (lo := 0) (hi := n) (by omega) (by omega)).2 (range1 G rfl (by decide +kernel) ((PE.lenL G rfl (by decide +kernel) (PE.loc (v := .ref D) rfl) (.inr (.tail _ (.head _))) (by simp; omega)).imp fun v e => by rw [List.length_map, List.length_range] at e; exact e)))
      ⟨⟨rfl, rfl, t₁, rfl⟩, rfl⟩ (fun _ _ _ _ x hx => nomatch hx) (fun k v I oI m₁ nw₁ s₄ hk hv hI S => ?_) (fun m₁ nw₁ s₄ hI S => ?_)
    · obtain ⟨hI, rfl⟩ := hI
      obtain ⟨tk, rfl⟩ := hv
      rw [show (0 : Int) + (k : Int) * 1 = k by omega] at *
      refine as_name S (fun s₅ S => ?_)
      have hk0 : (0 : Int) ≤ k := Int.natCast_nonneg _
      have hk63 : (k : Int) < 2 ^ 63 := by omega
      have eE : barE R k k k = R k k k := by unfold barE; rw [Nat.min_self, Nat.min_self]
      refine s_assignI S (i := R k k k) (PE.idxL (i := (k : Int)) (Ps := (List.range n).map fun j => vI (barE R k k j)) (PE.idxL (i := (k : Int)) (Ps := (List.range n).map fun i => vIs (.ref (r i))) (P := vIs (.ref (r k))) (PE.loc (by exact hI.rows)) (.inr (.tail _ (.tail _ (.head _)))) (PE.locI (t := tk) rfl) hk0 hk63 (colL.at hk)) (.inr (.tail _ (.tail _ (.tail _ (rowLd.mem hk))))) (PE.locI (t := tk) rfl) hk0 hk63 (by rw [Int.toNat_natCast, rowO.at hk, eE])) (fun t₂ s₆ S => ?_)
      refine s_append S (PE.loc (v := .ref mm) (by exact hI.mins)) (.tail _ (.head _)) (by simp; omega) (PE.locI (t := t₂) rfl) (fun v ext s₇ f S => ?_)
      obtain ⟨pv, rfl⟩ := f
      refine ⟨_, _, pv, .tail .head, fun s₇ S => ?_⟩
      rw [show (List.range k).map (fun q => vI (R q q q)) ++ [vI (R k k k)] = (List.range (k + 1)).map fun q => vI (R q q q) by rw [List.range_succ, List.map_append]; rfl] at S
      refine s_if S (PT.eqI (PE.locI (t := t₂) (i := R k k k) rfl) PE.kI) (fun hb s₈ S => absurd (by simpa using hb) (hB.nz k hk)) (fun _ s₈ S => s_nil ?_)
      have J : MinJ R n D mm k (upd (upd m₁ "k" (.int k tk)) "pivot" (.int (R k k k) t₂)) := ⟨⟨hI.rows, hI.mins, hI.last⟩, ⟨tk, rfl⟩, ⟨t₂, rfl⟩⟩
      have e0 : rowLd n r (barE R k) = rowLd n r (barM R k (k + 1 + 0) 0) := rowLd.congr fun i j hi hj => by
        unfold barM barE
        split
        · rw [show min (k + 1) (min i j) = min k (min i j) by omega]
        · rfl
      rw [e0] at S
      have hlast : lastR R k ≠ 0 ∧ (lastR R k).natAbs.log2 < 9000 := by
        unfold lastR
        split
        · exact ⟨by decide, by decide⟩
        · refine ⟨hB.nz _ (by omega), ?_⟩
          have hb := hB.bd (k - 1) (k - 1) (k - 1) (Nat.le_refl _) (Nat.le_refl _) (by omega) (by omega)
          have hne := hB.nz (k - 1) (by omega)
          have := (Nat.log2_lt (n := (R (k - 1) (k - 1) (k - 1)).natAbs) (k := 64) (by omega)).mpr (by omega)
          omega
      refine s_for (n := n - (k + 1)) (fixed := []) (fun q m₂ nw₂ => MinJ R n D mm k m₂ ∧ nw₂ = (I, fun x => x = oI) :: (mm, oL ((List.range (k + 1)).map fun q => vI (R q q q))) :: (D, colL r n) :: rowLd n r (barM R k (k + 1 + q) 0)) S
        (PSrc.rangeOf (lo := ((k + 1 : Nat) : Int)) (hi := (n : Int)) (st := 1) G.ok.handled (range_small (lo := k + 1) (hi := n) (by omega) (by omega)).1 (range_small (lo := k + 1) (hi := n) (by omega) (by omega)).2
          (range2 G rfl (by decide +kernel) ((PE.add (PE.locI (t := tk) (i := (k : Int)) rfl) PE.kI).imp fun v e => by rw [show (k : Int) + 1 = ((k + 1 : Nat) : Int) by omega] at e; exact e) ((PE.lenL G rfl (by decide +kernel) (PE.loc (v := .ref D) (by exact hI.rows)) (.inr (.tail _ (.tail _ (.head _)))) (by simp; omega)).imp fun v e => by rw [List.length_map, List.length_range] at e; exact e)))
        ⟨J, rfl⟩ (fun _ _ _ _ x hx => nomatch hx) (fun q v I2 oI2 m₂ nw₂ s₉ hq hv hJ S => ?_) (fun m₂ nw₂ s₉ hJ S => ?_)
      · obtain ⟨J, rfl⟩ := hJ
        obtain ⟨ti, rfl⟩ := hv
        rw [show ((k + 1 : Nat) : Int) + (q : Int) * 1 = ((k + 1 + q : Nat) : Int) by omega]
        generalize hi0 : k + 1 + q = i at S ⊢
        have hki : k < i := by omega
        have hin : i < n := by omega
        refine as_name S (fun s₁₀ S => ?_)
        have K : MinK R n D mm k i (upd m₂ "i" (.int (i : Int) ti)) := ⟨⟨⟨J.rows, J.mins, J.last⟩, J.hk, J.hp⟩, ⟨ti, rfl⟩⟩
        generalize upd m₂ "i" (.int (i : Int) ti) = m₃ at S K
        obtain ⟨tk3, hk3⟩ := K.hk
        have e1 : rowLd n r (barM R k i 0) = rowLd n r (barM R k i (k + 1 + 0)) := rowLd.congr fun i' j' hi hj => by
          unfold barM barE
          by_cases h1 : i' < i
          · rw [if_pos (.inl h1), if_pos (.inl h1)]
          · by_cases h2 : i' = i ∧ j' < k + 1 + 0
            · rw [if_neg (by omega), if_pos (.inr h2), show min (k + 1) (min i' j') = min k (min i' j') by omega]
            · rw [if_neg (by omega), if_neg (by omega)]
        rw [e1] at S
        refine s_for (n := n - (k + 1)) (fixed := []) (fun t m₄ nw₄ => MinK R n D mm k i m₄ ∧ nw₄ = (I2, fun x => x = oI2) :: (I, fun x => x = oI) :: (mm, oL ((List.range (k + 1)).map fun q => vI (R q q q))) :: (D, colL r n) :: rowLd n r (barM R k i (k + 1 + t))) S
          (PSrc.rangeOf (lo := ((k + 1 : Nat) : Int)) (hi := (n : Int)) (st := 1) G.ok.handled (range_small (lo := k + 1) (hi := n) (by omega) (by omega)).1 (range_small (lo := k + 1) (hi := n) (by omega) (by omega)).2
            (range2 G rfl (by decide +kernel) ((PE.add (PE.locI (t := tk3) (i := (k : Int)) hk3) PE.kI).imp fun v e => by rw [show (k : Int) + 1 = ((k + 1 : Nat) : Int) by omega] at e; exact e) ((PE.lenL G rfl (by decide +kernel) (PE.loc (v := .ref D) K.rows) (.inr (.tail _ (.tail _ (.tail _ (.head _))))) (by simp; omega)).imp fun v e => by rw [List.length_map, List.length_range] at e; exact e)))
          ⟨K, rfl⟩ (fun _ _ _ _ x hx => nomatch hx) (fun t v I3 oI3 m₄ nw₄ s₁₁ ht hv hK S => ?_) (fun m₄ nw₄ s₁₁ hK S => ?_)
        · obtain ⟨K, rfl⟩ := hK
          obtain ⟨tj, rfl⟩ := hv
          rw [show ((k + 1 : Nat) : Int) + (t : Int) * 1 = ((k + 1 + t : Nat) : Int) by omega]
          generalize hj0 : k + 1 + t = j at S ⊢
          have hkj : k < j := by omega
          have hjn : j < n := by omega
          refine as_name S (fun s₁₂ S => ?_)
          obtain ⟨tk4, hk4⟩ := K.hk
          obtain ⟨tp4, hp4⟩ := K.hp
          obtain ⟨ti4, hi4⟩ := K.hi
          obtain ⟨tl4, hl4⟩ := K.last
          have z (x : Nat) : (0 : Int) ≤ x := Int.natCast_nonneg _
          have z63 (x : Nat) (h : x < n) : (x : Int) < 2 ^ 63 := by omega
          have a1 : barM R k i j i j = R k i j := by unfold barM barE; rw [if_neg (by omega), show min k (min i j) = k by omega]
          have a2 : barM R k i j i k = R k i k := by unfold barM barE; rw [if_pos (by omega), show min (k + 1) (min i k) = k by omega]
          have a3 : barM R k i j k j = R k k j := by unfold barM barE; rw [if_pos (by omega), show min (k + 1) (min k j) = k by omega]
          have hst := hB.step k i j hki hkj hin hjn
          have hdiv : (R k i j * R k k k - R k i k * R k k j).fdiv (lastR R k) = R (k + 1) i j := by
            rw [← hst]; exact Int.mul_fdiv_cancel _ hlast.1
          have b1 := hB.bd k i j (by omega) (by omega) hin hjn
          have b2 := hB.bd k i k (by omega) (Nat.le_refl _) hin hk
          refine s_setIdx (a := r i) (Ps := (List.range n).map fun j' => vI (barM R k i j i j')) (P := vI (R (k + 1) i j)) (i := (j : Int)) S
            ((PE.fdiv (PE.sub (PE.mul (PE.idxL (i := (j : Int)) (Ps := (List.range n).map fun j' => vI (barM R k i j i j')) (P := vI (R k i j)) (PE.idxL (i := (i : Int)) (Ps := (List.range n).map fun i => vIs (.ref (r i))) (P := vIs (.ref (r i))) (PE.loc (v := .ref D) (by exact K.rows)) (.inr (.tail _ (.tail _ (.tail _ (.tail _ (.head _)))))) (PE.locI (t := ti4) (by exact hi4)) (z i) (z63 i hin) (colL.at hin)) (.inr (.tail _ (.tail _ (.tail _ (.tail _ (.tail _ (rowLd.mem hin))))))) (PE.locI (t := tj) rfl) (z j) (z63 j hjn) (by rw [Int.toNat_natCast, rowO.at hjn, a1])) (PE.locI (i := R k k k) (t := tp4) (by exact hp4)) (intMul64 b1.1 b1.2))
              (PE.mul (PE.idxL (i := (k : Int)) (Ps := (List.range n).map fun j' => vI (barM R k i j i j')) (P := vI (R k i k)) (PE.idxL (i := (i : Int)) (Ps := (List.range n).map fun i => vIs (.ref (r i))) (P := vIs (.ref (r i))) (PE.loc (v := .ref D) (by exact K.rows)) (.inr (.tail _ (.tail _ (.tail _ (.tail _ (.head _)))))) (PE.locI (t := ti4) (by exact hi4)) (z i) (z63 i hin) (colL.at hin)) (.inr (.tail _ (.tail _ (.tail _ (.tail _ (.tail _ (rowLd.mem hin))))))) (PE.locI (t := tk4) (by exact hk4)) (z k) (z63 k hk) (by rw [Int.toNat_natCast, rowO.at hk, a2]))
                (PE.idxL (i := (j : Int)) (Ps := (List.range n).map fun j' => vI (barM R k i j k j')) (P := vI (R k k j)) (PE.idxL (i := (k : Int)) (Ps := (List.range n).map fun i => vIs (.ref (r i))) (P := vIs (.ref (r k))) (PE.loc (v := .ref D) (by exact K.rows)) (.inr (.tail _ (.tail _ (.tail _ (.tail _ (.head _)))))) (PE.locI (t := tk4) (by exact hk4)) (z k) (z63 k hk) (colL.at hk)) (.inr (.tail _ (.tail _ (.tail _ (.tail _ (.tail _ (rowLd.mem hk))))))) (PE.locI (t := tj) rfl) (z j) (z63 j hjn) (by rw [Int.toNat_natCast, rowO.at hjn, a3])) (intMul64 b2.1 b2.2)))
              (PE.locI (i := lastR R k) (t := tl4) (by exact hl4)) hlast.1 hlast.2).imp fun v e => by rw [hdiv] at e; exact e)
            (PE.idxL (i := (i : Int)) (Ps := (List.range n).map fun i => vIs (.ref (r i))) (P := vIs (.ref (r i))) (PE.loc (v := .ref D) (by exact K.rows)) (.inr (.tail _ (.tail _ (.tail _ (.tail _ (.head _)))))) (PE.locI (t := ti4) (by exact hi4)) (z i) (z63 i hin) (colL.at hin))
            (PE.locI (t := tj) rfl) (z j) (by simp; omega) (z63 j hjn)
            ⟨(I3, fun x => x = oI3) :: (I2, fun x => x = oI2) :: (I, fun x => x = oI) :: (mm, oL ((List.range (k + 1)).map fun q => vI (R q q q))) :: (D, colL r n) :: rowLd n r (barM R k i (j + 1)), ?_, fun s₁₃ S => s_nil ⟨_, _, S, ⟨⟨⟨⟨K.rows, K.mins, K.last⟩, K.hk, K.hp⟩, K.hi⟩, by rw [show k + 1 + (t + 1) = j + 1 by omega]⟩⟩⟩
          have eg : (List.range n).map (fun k_1 => vI (if k_1 = j then R (k + 1) i j else barM R k i j i k_1)) = (List.range n).map fun j' => vI (barM R k i (j + 1) i j') := List.map_congr_left fun j' _ => by
            congr 1
            by_cases h : j' = j
            · subst h; unfold barM barE; rw [if_pos rfl, if_pos (by omega), show min (k + 1) (min i j') = k + 1 by omega]
            · rw [if_neg h]; unfold barM
              by_cases h2 : j' < j
              · rw [if_pos (by omega), if_pos (by omega)]
              · rw [if_neg (by omega), if_neg (by omega)]
          rw [Int.toNat_natCast, set_row, eg]
          exact .tail (.tail (.tail (.tail (.tail (rowLd.ch (f := barM R k i j) (g := barM R k i (j + 1)) hin fun i' hne => funext fun j' => by
            unfold barM
            by_cases h2 : i' < i
            · rw [if_pos (by omega), if_pos (by omega)]
            · rw [if_neg (by omega), if_neg (by omega)])))))
        · obtain ⟨K, rfl⟩ := hK
          have e2 : rowLd n r (barM R k i (k + 1 + (n - (k + 1)))) = rowLd n r (barM R k (k + 1 + (q + 1)) 0) := rowLd.congr fun i' j' hi hj => by
            unfold barM
            by_cases h : i' < i ∨ (i' = i ∧ j' < k + 1 + (n - (k + 1)))
            · rw [if_pos h, if_pos (by omega)]
            · rw [if_neg h, if_neg (by omega)]
          rw [e2] at S
          exact s_nil ⟨_, _, S, ⟨⟨K.rows, K.mins, K.last⟩, K.hk, K.hp⟩, rfl⟩
      · obtain ⟨J, rfl⟩ := hJ
        obtain ⟨tp5, hp5⟩ := J.hp
        have e3 : rowLd n r (barM R k (k + 1 + (n - (k + 1))) 0) = rowLd n r (barE R (k + 1)) := rowLd.congr fun i' j' hi hj => by
          unfold barM; rw [if_pos (by omega)]
        rw [e3] at S
        refine s_assignI S (PE.locI (i := R k k k) (t := tp5) hp5) (fun t₉ s₁₀ S => ?_)
        refine s_nil ⟨_, _, S, ⟨J.rows, J.mins, t₉, ?_⟩, rfl⟩
        unfold lastR; rw [if_neg (Nat.succ_ne_zero _)]; rfl
    · obtain ⟨hI, rfl⟩ := hI
      refine s_ret S (PE.loc hI.mins) (fun v ext s₅ h S => ?_)
      obtain ⟨h1, rfl⟩ := h
      have h1 : v = _ := h1
      subst h1
      exact ⟨_, rfl, S.out rfl, _, ⟨mm, rfl, rfl⟩, S.fresh (List.Sublist.cons_cons _ (List.nil_sublist _))⟩
end
end Mine

-- part F12
namespace Mine
noncomputable section

abbrev cpsL (x : Str) : List Nat := x.cps.toList
def flat1 (c : Nat) (z : List Nat) (l : List Nat) : List Nat := l.flatMap fun d => if d = c then z else [d]
theorem flat1_app (c : Nat) (z l l' : List Nat) : flat1 c z (l ++ l') = flat1 c z l ++ flat1 c z l' := List.flatMap_append ..
theorem flat1_free {c : Nat} {z : List Nat} : ∀ {l : List Nat}, c ∉ l → flat1 c z l = l
  | [], _ => rfl
  | d :: l, h => by
    have h1 : d ≠ c := fun e => h (e ▸ List.mem_cons_self ..)
    show (if d = c then z else [d]) ++ flat1 c z l = _
    rw [if_neg h1, flat1_free fun e => h (List.mem_cons_of_mem _ e)]; rfl
theorem flat_join (c : Nat) (z : Str) : ∀ ps : List Str, (∀ p ∈ ps, c ∉ cpsL p) → flat1 c (cpsL z) (cpsL (Str.join ⟨#[c]⟩ ps)) = cpsL (Str.join z ps)
  | [], _ => rfl
  | [p], h => flat1_free (h p (.head _))
  | p :: q :: r, h => by
    have ih := flat_join c z (q :: r) fun a ha => h a (.tail _ ha)
    show flat1 c (cpsL z) (cpsL (p ++ ⟨#[c]⟩ ++ Str.join ⟨#[c]⟩ (q :: r))) = cpsL (p ++ z ++ Str.join z (q :: r))
    simp only [cpsL, Str.cps_append, Array.toList_append, flat1_app]
    rw [flat1_free (h p (.head _))]
    have : flat1 c z.cps.toList [c] = z.cps.toList := by show (if c = c then _ else _) ++ [] = _; rw [if_pos rfl, List.append_nil]
    rw [this]
    exact congrArg (fun l => _ ++ l) ih
theorem replace_flat (x z : Str) (c : Nat) : cpsL (Txt.replace x ⟨#[c]⟩ z) = flat1 c (cpsL z) (cpsL x) := by
  rw [StrLaws.replace_one, ← flat_join c z _ (StrLaws.split_free x c), StrLaws.join_split]
theorem flat1_len (c : Nat) (z : List Nat) (k : Nat) (hz : z.length ≤ k) (h1 : 1 ≤ k) : ∀ l : List Nat, (flat1 c z l).length ≤ l.length * k
  | [] => by simp [flat1]
  | d :: l => by
    have ih := flat1_len c z k hz h1 l
    show ((if d = c then z else [d]) ++ flat1 c z l).length ≤ (l.length + 1) * k
    rw [List.length_append, Nat.add_mul, Nat.one_mul]
    split
    · omega
    · simp only [List.length_singleton]; omega
theorem join_flatMap (ss : List Str) : cpsL (Txt.join (Str.ofString "") ss) = ss.flatMap cpsL := by
  show cpsL (Builtin.Str.glued _ ss) = _
  rw [StrLaws.glued_eq_join]
  have e : (Str.ofString "") = ⟨#[]⟩ := by decide +kernel
  rw [e]
  induction ss with
  | nil => rfl
  | cons p r ih =>
    cases r with
    | nil => show cpsL p = _; simp
    | cons q r =>
      show cpsL (p ++ ⟨#[]⟩ ++ Str.join ⟨#[]⟩ (q :: r)) = _
      rw [List.flatMap_cons, ← ih]
      simp [cpsL, Str.cps_append]
theorem str_ext {x y : Str} (h : cpsL x = cpsL y) : x = y := by
  cases x; cases y
  simp only [Str.mk.injEq]
  exact Array.toList_inj.mp h

theorem flat1_flatMap (c : Nat) (z : List Nat) (f : Nat → List Nat) (l : List Nat) : flat1 c z (l.flatMap f) = l.flatMap fun d => flat1 c z (f d) := List.flatMap_assoc ..
theorem one1_eq {c d : Nat} : (one1 d == one1 c) = decide (d = c) := by
  by_cases h : d = c
  · subst h; simp
  · rw [decide_eq_false h, beq_false_of_ne]
    intro e; exact h (by simpa [one1] using e)
def tabOf (l : List (Nat × List Nat)) (d : Nat) : List Nat := (l.lookup d).getD [d]
def tabT : List (Nat × List Nat) := [(38, [38, 97, 109, 112, 59]), (60, [38, 108, 116, 59]), (62, [38, 103, 116, 59]), (13, [38, 35, 120, 68, 59])]
def tabV : List (Nat × List Nat) := [(38, [38, 97, 109, 112, 59]), (60, [38, 108, 116, 59]), (34, [38, 113, 117, 111, 116, 59]), (9, [38, 35, 120, 57, 59]), (10, [38, 35, 120, 65, 59]), (13, [38, 35, 120, 68, 59])]
theorem mapped_tab {l : List (Str × Str)} {l' : List (Nat × List Nat)} (h : l = l'.map fun p => (one1 p.1, ⟨p.2.toArray⟩)) (d : Nat) : cpsL (mapped l d) = tabOf l' d := by
  subst h
  unfold mapped tabOf
  induction l' with
  | nil => rfl
  | cons p r ih =>
    obtain ⟨a, b⟩ := p
    rw [List.map_cons, List.lookup_cons, List.lookup_cons, one1_eq]
    by_cases hd : d = a
    · subst hd; simp
    · rw [decide_eq_false hd, show (d == a) = false from beq_false_of_ne hd]; exact ih
theorem asText_cps (x : Str) : cpsL (asText x) = (cpsL x).flatMap (tabOf tabT) := by
  unfold asText
  rw [join_flatMap, List.flatMap_map]
  exact congrArg (fun f => (cpsL x).flatMap f) (funext fun d => mapped_tab (l' := tabT) (by decide +kernel) d)
theorem asValue_cps (x : Str) : cpsL (asValue x) = (cpsL x).flatMap (tabOf tabV) := by
  unfold asValue
  rw [join_flatMap, List.flatMap_map]
  exact congrArg (fun f => (cpsL x).flatMap f) (funext fun d => mapped_tab (l' := tabV) (by decide +kernel) d)

theorem chainT (l : List Nat) : flat1 13 [38, 35, 120, 68, 59] (flat1 62 [38, 103, 116, 59] (flat1 60 [38, 108, 116, 59] (flat1 38 [38, 97, 109, 112, 59] l))) = l.flatMap (tabOf tabT) := by
  rw [show flat1 38 [38, 97, 109, 112, 59] l = l.flatMap (fun d => if d = 38 then [38, 97, 109, 112, 59] else [d]) from rfl, flat1_flatMap, flat1_flatMap, flat1_flatMap]
  refine congrArg (fun f => l.flatMap f) (funext fun d => ?_)
  by_cases h1 : d = 38
  · subst h1; decide
  by_cases h2 : d = 60
  · subst h2; decide
  by_cases h3 : d = 62
  · subst h3; decide
  by_cases h4 : d = 13
  · subst h4; decide
  simp [flat1, tabOf, tabT, List.lookup_cons, h1, h2, h3, h4, show (d == 38) = false from beq_false_of_ne h1, show (d == 60) = false from beq_false_of_ne h2, show (d == 62) = false from beq_false_of_ne h3, show (d == 13) = false from beq_false_of_ne h4]
theorem chainV (l : List Nat) : flat1 13 [38, 35, 120, 68, 59] (flat1 10 [38, 35, 120, 65, 59] (flat1 9 [38, 35, 120, 57, 59] (flat1 34 [38, 113, 117, 111, 116, 59] (flat1 60 [38, 108, 116, 59] (flat1 38 [38, 97, 109, 112, 59] l))))) = l.flatMap (tabOf tabV) := by
  rw [show flat1 38 [38, 97, 109, 112, 59] l = l.flatMap (fun d => if d = 38 then [38, 97, 109, 112, 59] else [d]) from rfl, flat1_flatMap, flat1_flatMap, flat1_flatMap, flat1_flatMap, flat1_flatMap]
  refine congrArg (fun f => l.flatMap f) (funext fun d => ?_)
  by_cases h1 : d = 38
  · subst h1; decide
  by_cases h2 : d = 60
  · subst h2; decide
  by_cases h3 : d = 34
  · subst h3; decide
  by_cases h4 : d = 9
  · subst h4; decide
  by_cases h5 : d = 10
  · subst h5; decide
  by_cases h6 : d = 13
  · subst h6; decide
  simp [flat1, tabOf, tabV, List.lookup_cons, h1, h2, h3, h4, h5, h6, show (d == 38) = false from beq_false_of_ne h1, show (d == 60) = false from beq_false_of_ne h2, show (d == 34) = false from beq_false_of_ne h3, show (d == 9) = false from beq_false_of_ne h4, show (d == 10) = false from beq_false_of_ne h5, show (d == 13) = false from beq_false_of_ne h6]

section
variable {C : Cx} {m : Str → Option Value} {nw : Ld} {s : Shared} {Q : Flow → Shared → Prop} {rest body : List Stmt} {p q : Pos} {d u : Nat}
theorem s_esc {x y z : Str} {t : Tok} {c k1 k2 k3 N : Nat} {p1 p2 p3 p4 p5 p6 p7 p8 p9 p10 : Pos} (S : C.St m nw s) (hm : m "text" = some (.str x t)) (hy : y = ⟨#[c]⟩) (hz : z.length ≤ 6) (hyz : (y == z) = false) (hx : x.length ≤ N) (hN : N ≤ 300000)
    (h : ∀ m' x' t' s₂, m' "text" = some (.str x' t') → cpsL x' = flat1 c (cpsL z) (cpsL x) → x'.length ≤ N * 6 → C.St m' nw s₂ → Ex C rest Q s₂)
    (hk : C.env.scope.kind = .function) (hl : C.env.kindOf "text" = some .local)
    (hc : McEq C (.Name "text" p4) "replace" p5 [.Constant (.str y) k2 p6, .Constant (.str z) k3 p7] p8)
    (hs : swapsWith (.Call (.Attribute (.Name "text" p4) "replace" p5) [.Constant (.str y) k2 p6, .Constant (.str z) k3 p7] [] p8) (some (.Name "text" p9)) p10.line C.env = pure false) :
    Ex C (.If (.Compare (.Constant (.str y) k1 p1) [.In] [.Name "text" p2] p3) [.Assign [.Name "text" p9] (.Call (.Attribute (.Name "text" p4) "replace" p5) [.Constant (.str y) k2 p6, .Constant (.str z) k3 p7] [] p8) p10] [] p :: rest) Q s := by
  subst hy
  have hlen : ∀ x' : Str, cpsL x' = flat1 c (cpsL z) (cpsL x) → x'.length ≤ N * 6 := fun x' e => by
    have h1 := flat1_len c (cpsL z) 6 (by simpa [Str.length] using hz) (by decide) (cpsL x)
    rw [← e] at h1
    have e1 : (cpsL x').length = x'.length := by simp [Str.length]
    have e2 : (cpsL x).length = x.length := by simp [Str.length]
    rw [e1, e2] at h1
    exact Nat.le_trans h1 (Nat.mul_le_mul_right 6 hx)
  refine s_if S (PT.inS PE.kS (PE.locS hm hk hl)) (fun hb s₂ S => ?_) (fun hb s₂ S => ?_)
  · refine s_assignS S (PE.repl (PE.locS hm hk hl) hyz ?_ hc) (fun t' s₃ S => s_nil ?_) hk hl hs
    · have h1 : (x.length + 1) * z.length ≤ (N + 1) * 6 := Nat.mul_le_mul (by omega) hz
      omega
    · exact h _ _ t' _ (by simp [upd]) (replace_flat x z c) (hlen _ (replace_flat x z c)) S
  · have hb : c ∉ cpsL x := of_decide_eq_false hb
    exact s_nil (h m x t _ hm (flat1_free hb).symm (hlen _ (flat1_free hb).symm) S)
theorem s_try {hs : List ExceptHandler} {h₀ : ExceptHandler} (h : Ex C body (thenQ C rest Q) s) : Ex C (.Try body (h₀ :: hs) [] [] p :: rest) Q s := by
  refine ex_cons (wpAny_Try_except (wpAny_mono h.run (fun fl s₁ z => ?_) fun _ _ z => z.elim))
  cases fl with
  | next => exact wpAny_execs_nil z
  | _ => exact z
end

theorem fn_cdata {w : World} {A : Around} {d u : Nat} {s : Shared} (hk : Ok A (d + 1) (u + 3)) (g : GI w s.heap) (ht : 0 < s.toks) (x : Str) (hx : x.length ≤ 30) (t : Tok) :
    codeAny (model pg w) A (.call (.ref 28) ⟨[.str x t], []⟩) (RetX s (pv (vS (asText x)))) s := by
  refine fnCall hk g ht (f := 28) (binds := [("text", .str x t)]) rfl rfl rfl (locs rfl) (fun L s₁ G S => ?_)
  refine s_try ?_
  refine s_esc (c := 38) (N := 30) S rfl (by decide +kernel) (by decide +kernel) (by decide +kernel) hx (by decide) (fun m₁ x₁ t₁ s₂ h1 e1 l1 S => ?_) (by kernel_rfl) (by kernel_rfl) (by kernel_rfl) (by kernel_rfl)
  refine s_esc (c := 60) (N := 180) S h1 (by decide +kernel) (by decide +kernel) (by decide +kernel) l1 (by decide) (fun m₂ x₂ t₂ s₂ h2 e2 l2 S => ?_) (by kernel_rfl) (by kernel_rfl) (by kernel_rfl) (by kernel_rfl)
  refine s_esc (c := 62) (N := 1080) S h2 (by decide +kernel) (by decide +kernel) (by decide +kernel) l2 (by decide) (fun m₃ x₃ t₃ s₂ h3 e3 l3 S => ?_) (by kernel_rfl) (by kernel_rfl) (by kernel_rfl) (by kernel_rfl)
  refine s_esc (c := 13) (N := 6480) S h3 (by decide +kernel) (by decide +kernel) (by decide +kernel) l3 (by decide) (fun m₄ x₄ t₄ s₂ h4 e4 l4 S => ?_) (by kernel_rfl) (by kernel_rfl) (by kernel_rfl) (by kernel_rfl)
  have e : x₄ = asText x := str_ext (by
    rw [e4, e3, e2, e1, asText_cps, ← chainT]
    rw [show cpsL (Str.ofString "&amp;") = [38, 97, 109, 112, 59] by decide +kernel, show cpsL (Str.ofString "&lt;") = [38, 108, 116, 59] by decide +kernel, show cpsL (Str.ofString "&gt;") = [38, 103, 116, 59] by decide +kernel, show cpsL (Str.ofString "&#xD;") = [38, 35, 120, 68, 59] by decide +kernel])
  subst e
  exact s_ret S (PE.locS h4 (by kernel_rfl) (by kernel_rfl)) (fun v ext s₅ h S => ⟨v, rfl, S.out rfl, [], ⟨h.1, rfl⟩, Fresh.nil⟩)

theorem fn_attrib {w : World} {A : Around} {d u : Nat} {s : Shared} (hk : Ok A (d + 1) (u + 3)) (g : GI w s.heap) (ht : 0 < s.toks) (x : Str) (hx : x.length ≤ 30) (t : Tok) :
    codeAny (model pg w) A (.call (.ref 35) ⟨[.str x t], []⟩) (RetX s (pv (vS (asValue x)))) s := by
  refine fnCall hk g ht (f := 35) (binds := [("text", .str x t)]) rfl rfl rfl (locs rfl) (fun L s₁ G S => ?_)
  refine s_try ?_
  refine s_esc (c := 38) (N := 30) S rfl (by decide +kernel) (by decide +kernel) (by decide +kernel) hx (by decide) (fun m₁ x₁ t₁ s₂ h1 e1 l1 S => ?_) (by kernel_rfl) (by kernel_rfl) (by kernel_rfl) (by kernel_rfl)
  refine s_esc (c := 60) (N := 180) S h1 (by decide +kernel) (by decide +kernel) (by decide +kernel) l1 (by decide) (fun m₂ x₂ t₂ s₂ h2 e2 l2 S => ?_) (by kernel_rfl) (by kernel_rfl) (by kernel_rfl) (by kernel_rfl)
  refine s_esc (c := 34) (N := 1080) S h2 (by decide +kernel) (by decide +kernel) (by decide +kernel) l2 (by decide) (fun m₃ x₃ t₃ s₂ h3 e3 l3 S => ?_) (by kernel_rfl) (by kernel_rfl) (by kernel_rfl) (by kernel_rfl)
  refine s_esc (c := 9) (N := 6480) S h3 (by decide +kernel) (by decide +kernel) (by decide +kernel) l3 (by decide) (fun m₄ x₄ t₄ s₂ h4 e4 l4 S => ?_) (by kernel_rfl) (by kernel_rfl) (by kernel_rfl) (by kernel_rfl)
  refine s_esc (c := 10) (N := 38880) S h4 (by decide +kernel) (by decide +kernel) (by decide +kernel) l4 (by decide) (fun m₅ x₅ t₅ s₂ h5 e5 l5 S => ?_) (by kernel_rfl) (by kernel_rfl) (by kernel_rfl) (by kernel_rfl)
  refine s_esc (c := 13) (N := 233280) S h5 (by decide +kernel) (by decide +kernel) (by decide +kernel) l5 (by decide) (fun m₆ x₆ t₆ s₂ h6 e6 l6 S => ?_) (by kernel_rfl) (by kernel_rfl) (by kernel_rfl) (by kernel_rfl)
  have e : x₆ = asValue x := str_ext (by
    rw [e6, e5, e4, e3, e2, e1, asValue_cps, ← chainV]
    rw [show cpsL (Str.ofString "&amp;") = [38, 97, 109, 112, 59] by decide +kernel, show cpsL (Str.ofString "&lt;") = [38, 108, 116, 59] by decide +kernel, show cpsL (Str.ofString "&quot;") = [38, 113, 117, 111, 116, 59] by decide +kernel, show cpsL (Str.ofString "&#x9;") = [38, 35, 120, 57, 59] by decide +kernel, show cpsL (Str.ofString "&#xA;") = [38, 35, 120, 65, 59] by decide +kernel, show cpsL (Str.ofString "&#xD;") = [38, 35, 120, 68, 59] by decide +kernel])
  subst e
  exact s_ret S (PE.locS h6 (by kernel_rfl) (by kernel_rfl)) (fun v ext s₅ h S => ⟨v, rfl, S.out rfl, [], ⟨h.1, rfl⟩, Fresh.nil⟩)
end
end Mine

-- part F13
namespace Mine
noncomputable section

def wsp : Str := Str.ofString "\n\t\r "
/-- the fields of a lexer -/
def lexF (ln : Int) (t : Tok) (v : Value) (t2 : Tok) (pb : Addr) : Str → Option Value := fun y =>
  if y = "lineno" then some (.int ln t) else if y = "instream" then some v else if y = "whitespace" then some (.str wsp t2) else if y = "pushback" then some (.ref pb) else none

theorem Cx.St.withA {C : Cx} {A : Around} {m : Str → Option Value} {nw : Ld} {s : Shared} (S : C.St m nw s) : ({ C with A := A } : Cx).St m nw s := ⟨S.same, S.fr, S.led, S.nd, S.tk⟩
theorem Cx.St.ofA {C : Cx} {A : Around} {m : Str → Option Value} {nw : Ld} {s : Shared} (S : ({ C with A := A } : Cx).St m nw s) : C.St m nw s := ⟨S.same, S.fr, S.led, S.nd, S.tk⟩

section
variable {C : Cx} {m m' : Str → Option Value} {nw nw' : Ld} {s : Shared} {Q : Flow → Shared → Prop} {rest body : List Stmt} {p q : Pos} {d u : Nat} {x dx c : Addr} {n : Nat} {f : Str → Option Value}

theorem fn_init {v : Value} (G : C.Good (d + 1) (u + 3)) (S : C.St m ((x, fun o => o = instObj 80 dx) :: (dx, oA 0 fun _ => none) :: nw) s) :
    codeAny (model pg C.w) C.A (.call (.ref 56) ⟨[.ref x, v], []⟩) (RetM C m fun r nw' => r = .none ∧ ∃ t t2 pb, nw' = (x, fun o => o = instObj 80 dx) :: (dx, oA 4 (lexF 1 t v t2 pb)) :: (pb, oL []) :: nw) s := by
  refine fnCallMX G S (f := 56) (binds := [("self", .ref x), ("fp", v)]) rfl rfl rfl (locs rfl) (fun L s₁ G S => ?_)
  refine s_setAttr (x := x) (dx := dx) (c := 80) (n := 0) (f := fun _ => none) G S (PE.kI (i := 1)) (by decide) rfl rfl rfl rfl (fun v₁ ext h => ?_) (by kernel_rfl)
  obtain ⟨⟨t, rfl⟩, rfl⟩ := h
  refine ⟨PE.loc rfl, .tail _ (.head _), _, .tail (.tail .head), fun s₂ S => ?_⟩
  refine s_setAttr (x := x) (dx := dx) (c := 80) (n := 1) (f := updA (fun _ => none) "lineno" (.int 1 t)) G S (PE.loc (v := v) rfl) (by decide) rfl rfl rfl rfl (fun v₁ ext h => ?_) (by kernel_rfl)
  obtain ⟨h1, rfl⟩ := h
  have h1 : v₁ = v := h1
  subst h1
  refine ⟨PE.loc rfl, .tail _ (.head _), _, .tail (.tail .head), fun s₂ S => ?_⟩
  refine s_setAttr (x := x) (dx := dx) (c := 80) (n := 2) (f := updA (updA (fun _ => none) "lineno" (.int 1 t)) "instream" v₁) G S (PE.kS (x := wsp)) (by decide) rfl rfl rfl rfl (fun v₂ ext h => ?_) (by kernel_rfl)
  obtain ⟨⟨t2, rfl⟩, rfl⟩ := h
  refine ⟨PE.loc rfl, .tail _ (.head _), _, .tail (.tail .head), fun s₂ S => ?_⟩
  refine s_setAttr (x := x) (dx := dx) (c := 80) (n := 3) (f := updA (updA (updA (fun _ => none) "lineno" (.int 1 t)) "instream" v₁) "whitespace" (.str wsp t2)) G S (PN.list .nil (by decide)) (by decide) rfl rfl rfl rfl (fun v₃ ext h => ?_) (by kernel_rfl)
  obtain ⟨pb, rfl, rfl⟩ := h
  refine ⟨PE.loc rfl, .tail _ (.tail _ (.head _)), _, .tail (.tail (.tail .head)), fun s₂ S => ?_⟩
  have e : (updA (updA (updA (updA (fun _ => none) "lineno" (.int 1 t)) "instream" v₁) "whitespace" (.str wsp t2)) "pushback" (.ref pb)) = lexF 1 t v₁ t2 pb := by
    funext y
    unfold updA lexF
    by_cases h1 : y = "pushback"
    · subst h1; rfl
    · simp only [h1, if_false]
      by_cases h2 : y = "whitespace"
      · subst h2; rfl
      · simp only [h2, if_false]
        by_cases h3 : y = "instream"
        · subst h3; rfl
        · simp only [h3, if_false]
  rw [e] at S
  refine s_nil ⟨.none, _, (x, fun o => o = instObj 80 dx) :: (dx, oA 4 (lexF 1 t v₁ t2 pb)) :: (pb, oL []) :: nw, .inr ⟨rfl, rfl⟩, ⟨rfl, t, t2, pb, rfl⟩, S.perm ?_⟩
  exact (List.Perm.swap ..).trans (List.Perm.cons _ ((List.Perm.swap ..).trans (List.Perm.cons _ (List.Perm.swap ..))))

theorem under_ok {A : Around} {c : Addr} {vs : List Value} (h : Ok A (d + 1) (u + 5)) : Ok (A.under (.builtin "type.__call__" ⟨.ref c :: vs, []⟩)) d u := by
  refine ⟨?_, ?_, h.handled⟩
  · have := h.depth
    show A.depth + Code.weight (.builtin "type.__call__" ⟨.ref c :: vs, []⟩) + d < 600
    have e : Code.weight (.builtin "type.__call__" ⟨.ref c :: vs, []⟩) = 1 := by kernel_rfl
    rw [e]; omega
  · have := h.units
    show A.units + Code.cUnits (.builtin "type.__call__" ⟨.ref c :: vs, []⟩) + u < 9000
    have e : Code.cUnits (.builtin "type.__call__" ⟨.ref c :: vs, []⟩) = 1 := by kernel_rfl
    rw [e]; omega

/-- the class, called -/
theorem call_lexer {v : Value} (G : C.Good (d + 2) (u + 8)) (S : C.St m nw s) :
    codeAny (model pg C.w) C.A (.call (.ref 80) ⟨[v], []⟩) (RetM C m fun r nw' => ∃ x dx t t2 pb, r = .ref x ∧ nw' = (x, fun o => o = instObj 80 dx) :: (dx, oA 4 (lexF 1 t v t2 pb)) :: (pb, oL []) :: nw) s := by
  have X := (S.gi G).K
  obtain ⟨hh, g, dd, tk, os⟩ := s
  refine make_core (init := .ref 56) (makes_of X (by kernel_rfl)) (looks_findIn X (by kernel_rfl)) (fun self => bind_fn X self (by kernel_rfl)) (.inl (by decide)) ?_
  have S₁ : C.St m ((hh.objs.size + 1, fun o => o = instObj 80 hh.objs.size) :: (hh.objs.size, oA 0 fun _ => none) :: nw) ⟨(hh.push emptyDict).push (instObj 80 hh.objs.size), g, dd, tk, os⟩ := by
    have h1 : (hh.push emptyDict).objs.size = hh.objs.size + 1 := Heap.size_push ..
    refine S.ext (ext := [(hh.objs.size + 1, fun o => o = instObj 80 hh.objs.size), (hh.objs.size, oA 0 fun _ => none)]) ⟨_, tk, rfl, fun b o e => Heap.get?_push_of_some _ (Heap.get?_push_of_some _ e)⟩ ⟨fun p hp => ?_, ?_⟩ (Nat.le_refl _)
    · rcases List.mem_cons.mp hp with rfl | hp
      · refine ⟨Heap.get?_none_of_le (Nat.le_succ _), _, ?_, rfl⟩
        have := Heap.get?_push_size (hh.push emptyDict) (o := instObj 80 hh.objs.size) rfl
        rwa [h1] at this
      · rw [List.mem_singleton.mp hp]
        exact ⟨Heap.get?_none_of_le (Nat.le_refl _), _, Heap.get?_push_of_some _ (Heap.get?_push_size _ rfl), [], 0, rfl, Nat.le_refl _, (fun _ h => nomatch h), fun _ => rfl⟩
    · simp
  have G' : ({ C with A := C.A.under (.builtin "type.__call__" ⟨.ref 80 :: [v], []⟩) } : Cx).Good (d + 1) (u + 3) := ⟨G.gi, under_ok G.ok, G.kind, G.glob, G.bi⟩
  refine codeAny_mono (fn_init (d := d) (u := u) (v := v) G' S₁.withA) fun r s' z => ?_
  obtain ⟨r', nw', rfl, ⟨rfl, t, t2, pb, rfl⟩, S'⟩ := z
  exact ⟨rfl, _, _, rfl, ⟨_, _, t, t2, pb, rfl, rfl⟩, S'.ofA⟩
end
end
end Mine

-- part F14
namespace Mine
noncomputable section

theorem noCell_of {l : List (Str × NameKind)} (h : (l.all fun x => x.2 != .cell) = true) : ∀ x ∈ l, x.2 ≠ .cell := fun x hx => by simpa using List.all_eq_true.mp h x hx
/-- the def of read within _law_stream -/
noncomputable def rdDef (w : World) : Option (Arguments × List Stmt × Scope) := ((KF w).lookup 91).bind fun o => match o.data with
  | .func fd => match fd.body with
    | .stmts b => match b.drop 2 with
      | .FunctionDef _ ps body _ _ _ sc _ _ _ :: _ => some (ps, body, sc)
      | _ => none
    | _ => none
  | _ => none
noncomputable def rdP (w : World) : Arguments × List Stmt × Scope := (rdDef w).getD (⟨[], [], none, [], [], none, []⟩, [], { kind := .function, names := [], isGenerator := false, isCoroutine := false })
def rdQual : Str := Str.ofString "_law_stream.<locals>.read"

def oCode (qual : Str) : OP := fun o => ∃ vs t, o.data = .fields vs ∧ vs[1]? = some (.str qual t)
structure LexA where
  (x dx pb b db rd cc ct cp pl : Addr)
  (t2 tt : Tok)
  rdO : Obj
  page : Str
  boxF : Str → Option Value
  (n k : Nat)
structure LexS where
  pos : Nat
  ln : Int
  t : Tok
  ws : List Str
def lexL (a : LexA) (σ : LexS) : Ld :=
  [(a.x, fun o => o = instObj 80 a.dx), (a.dx, oA a.n (lexF σ.ln σ.t (.ref a.b) a.t2 a.pb)), (a.pb, oL (σ.ws.map vS)), (a.b, fun o => o = instObj 80 a.db), (a.db, oA a.k a.boxF), (a.rd, fun o => o = a.rdO), (a.cc, oCode rdQual),
    (a.ct, oCell (some (.str a.page a.tt))), (a.cp, oCell (some (.ref a.pl))), (a.pl, oL [vI σ.pos])]
structure LexOk (w : World) (a : LexA) : Prop where
  read : a.boxF "read" = some (.ref a.rd)
  rdO : ∃ doc pm ctv, a.rdO = fnMade "read" rdQual (rdP w).1 (rdP w).2.1 (rdP w).2.2 [("text", a.ct), ("place", a.cp)] doc pm a.cc ctv
  n : a.n ≤ 800
  page : a.page.length ≤ 10000
def chAt (x : Str) (i : Nat) : Str := Txt.slice x (some (i : Int)) (some ((i : Int) + 1))

section
variable {C : Cx} {m m' : Str → Option Value} {nw nw' : Ld} {s : Shared} {Q : Flow → Shared → Prop} {rest body : List Stmt} {p q : Pos} {d u : Nat} {a : LexA} {σ : LexS} {X R : Ld}
theorem lexL.sub (h : pr ∈ lexL a σ) : pr ∈ X ++ (lexL a σ ++ R) := List.mem_append_right _ (List.mem_append_left _ h)
theorem lexL.chg {σ' : LexS} {b : Addr} {O O' : OP} (h : Ch b O O' (lexL a σ ++ R) (lexL a σ' ++ R)) : Ch b O O' (X ++ (lexL a σ ++ R)) (X ++ (lexL a σ' ++ R)) := h.app X

theorem fn_read {t : Tok} (G : C.Good (d + 1) (u + 3)) (ok : LexOk C.w a) (S : C.St m (X ++ (lexL a σ ++ R)) s) :
    codeAny (model pg C.w) C.A (.call (.ref a.rd) ⟨[.int 1 t], []⟩) (RetM C m fun v nw' => (∃ t, v = .str (chAt a.page σ.pos) t) ∧ nw' = X ++ (lexL a { σ with pos := σ.pos + 1 } ++ R)) s := by
  obtain ⟨doc, pm, ctv, hrd⟩ := ok.rdO
  obtain ⟨o, ho, rfl⟩ := S.at (a := a.rd) (O := fun o => o = a.rdO) (lexL.sub (.tail _ (.tail _ (.tail _ (.tail _ (.tail _ (.head _)))))))
  obtain ⟨oc, hoc, vs, tc, hd, hv⟩ := S.at (a := a.cc) (O := oCode rdQual) (lexL.sub (.tail _ (.tail _ (.tail _ (.tail _ (.tail _ (.tail _ (.head _))))))))
  have m1 : ∀ Y : Addr × OP, (a.ct, oCell (some (.str a.page a.tt))) ∈ Y :: (X ++ (lexL a σ ++ R)) := fun Y => .tail _ (lexL.sub (.tail _ (.tail _ (.tail _ (.tail _ (.tail _ (.tail _ (.tail _ (.head _)))))))))
  have m2 : ∀ Y : Addr × OP, (a.cp, oCell (some (.ref a.pl))) ∈ Y :: (X ++ (lexL a σ ++ R)) := fun Y => .tail _ (lexL.sub (.tail _ (.tail _ (.tail _ (.tail _ (.tail _ (.tail _ (.tail _ (.tail _ (.head _))))))))))
  have m3 : ∀ Y : Addr × OP, (a.pl, oL [vI σ.pos]) ∈ Y :: (X ++ (lexL a σ ++ R)) := fun Y => .tail _ (lexL.sub (.tail _ (.tail _ (.tail _ (.tail _ (.tail _ (.tail _ (.tail _ (.tail _ (.tail _ (.head _)))))))))))
  refine fnCallH (an := none) (name := "read") (qual := rdQual) (params := (rdP C.w).1) (body := (rdP C.w).2.1) (scope := (rdP C.w).2.2) (cl := [("text", a.ct), ("place", a.cp)]) (binds := [("count", .int 1 t)]) G S ho (by rw [hrd]) ⟨_, oc, vs, tc, rfl, hoc, hd, hv⟩ (by kernel_rfl) (locs rfl) (fun L s₁ G S => ?_) (by kernel_rfl) (by kernel_rfl) (by kernel_rfl) (noCell_of (by kernel_rfl))
  have h0 : (0 : Int) ≤ σ.pos := Int.natCast_nonneg _
  refine s_assignS S (PE.strSlice (x := a.page) (i := (σ.pos : Int)) (j := (σ.pos : Int) + 1) ((PE.free (c := a.ct) (m1 _) rfl).imp fun v e => ⟨_, e⟩) (PE.idxL (i := 0) (Ps := [vI σ.pos]) (P := vI σ.pos) (PE.free (c := a.cp) (m2 _) rfl) (.inr (m3 _)) PE.kI (by decide) (by decide) rfl)
    (PE.add (PE.idxL (i := 0) (Ps := [vI σ.pos]) (P := vI σ.pos) (PE.free (c := a.cp) (m2 _) rfl) (.inr (m3 _)) PE.kI (by decide) (by decide) rfl) (PE.locI (t := t) rfl)) (by rw [sizeLine_eq]; have := ok.page; omega)) (fun t₁ s₂ S => ?_)
  refine s_augIdx (a := a.pl) (ks := [(σ.pos : Int)]) S (PE.free (c := a.cp) (m2 _) rfl) PE.kI (by decide) (by show (0 : Int) < ((1 : Nat) : Int); decide) (by decide) (PE.locI (t := t) rfl) ⟨_, .tail (lexL.chg (σ' := { σ with pos := σ.pos + 1 }) (.tail (.tail (.tail (.tail (.tail (.tail (.tail (.tail (.tail .head)))))))))), fun s₃ S => ?_⟩
  refine s_ret S (PE.locS (t := t₁) rfl) (fun v ext s₄ h S => ?_)
  exact ⟨v, _, _, .inl rfl, ⟨h.1, rfl⟩, by have := h.2; subst this; exact S⟩
end
end
end Mine

-- part L16
namespace Mine
noncomputable section

theorem wpAny_callBorrowed {M : Model} {A : Around} {E : Value → Shared → Prop} {s : Shared} {f : Value} {pos : List Value} {Q : Value → Shared → Prop}
    (hc : codeAny M A (.call f ⟨pos, []⟩) (fun r s' => match r with | .ok (.ret v) => Q v s' | .ok _ => False | .error e => E e s') s) :
    wpAny M A (callBorrowed f pos) Q E s := fun Γ p hΓ => by
  unfold callBorrowed
  rw [Sem.wp_call]
  refine codeAny_mono hc (fun r s' z => ?_) _ p rfl (hΓ.enter _ none p (by intro x; cases x))
  cases r with
  | ok f => cases f <;> first | exact z | exact z.elim
  | error e => exact z

namespace CI
theorem slot_next : Slot "callable_iterator" "__next__" "callable_iterator.__next__" :=
  .of (owner := "callable_iterator") (n := "__next__") (by rw [typeLookup_type, builtinLookup_eq_fast]; kernel_rfl) (by decide +kernel) (by decide +kernel) (by decide +kernel)
    (by first | exact .inl (by decide +kernel) | exact .inr (by decide +kernel)) (by rw [isSubtype_type]; kernel_rfl)
theorem entry_next : entryFor table "callable_iterator.__next__" = some Builtin.«callable_iterator.__next__» := entryFor_of_tree (by kernel_rfl)
theorem args_next (a : Value) : argsOk "callable_iterator.__next__" ⟨[a], []⟩ := by unfold argsOk; kernel_rfl
theorem slot_iter : Slot "callable_iterator" "__iter__" "callable_iterator.__iter__" :=
  .of (owner := "callable_iterator") (n := "__iter__") (by rw [typeLookup_type, builtinLookup_eq_fast]; kernel_rfl) (by decide +kernel) (by decide +kernel) (by decide +kernel)
    (by first | exact .inl (by decide +kernel) | exact .inr (by decide +kernel)) (by rw [isSubtype_type]; kernel_rfl)
theorem entry_iter : entryFor table "callable_iterator.__iter__" = some Builtin.«dict_keyiterator.__iter__» :=
  entryFor_alias (id' := "dict_keyiterator.__iter__") (by kernel_rfl) (by first | rfl | decide +kernel) (by decide +kernel) (by kernel_rfl)
theorem args_iter (a : Value) : argsOk "callable_iterator.__iter__" ⟨[a], []⟩ := by unfold argsOk; kernel_rfl
theorem look_call : typeLookup (.type "method") "__call__" = pure (some (.builtin "method.__call__")) := by rw [typeLookup_type, builtinLookup_eq_fast]; kernel_rfl
theorem kind_iter : builtinKind "iter" = none := by decide +kernel
theorem plain_iter : plainId "iter" = true := by decide +kernel
theorem entry_fiter : entryFor table "iter" = some Builtin.«iter» := entryFor_of_tree (by kernel_rfl)
theorem args_fiter (a b : Value) : argsOk "iter" ⟨[a, b], []⟩ := by unfold argsOk; kernel_rfl
end CI

/-- the iterator over a bound method's calls, up to the empty text; and at its end -/
abbrev citO (q : Addr) (t : Tok) : Obj := { cls := .type "callable_iterator", data := .fields #[.ref q, .str (Str.ofString "") t, .bool false] }
abbrev citE : Obj := { cls := .type "callable_iterator", data := .fields #[.none, .none, .bool true] }

section
variable {C : Cx} {m : Str → Option Value} {nw : Ld} {s : Shared} {Q : Flow → Shared → Prop} {rest body : List Stmt} {p q : Pos} {d u : Nat} {x dx c : Addr} {n : Nat} {f : Str → Option Value}

theorem wp_iter {b : Addr} {t : Tok} {E : Value → Shared → Prop} {Q : Value → Shared → Prop} {g self : Value} (ho : s.heap.get? b = some (methodObj g self)) (h : Q (.ref s.heap.objs.size) { s with heap := s.heap.push (citO b t) }) :
    wpAny (model pg C.w) C.A (call (.builtin "iter") [.ref b, .str (Str.ofString "") t]) Q E s := by
  refine Calls.call_function_entry CI.kind_iter CI.plain_iter CI.entry_fiter (CI.args_fiter _ _) ?_
  unfold Builtin.«iter»
  refine wpAny_bind (wpAny_of_eq (a := [.ref b, .str (Str.ofString "") t]) (by first | rfl | kernel_rfl) ?_)
  dsimp only
  refine wpAny_bind (wpAny_specialOf (T := "method") ⟨_, ho, rfl⟩ CI.look_call ?_)
  show wpAny _ _ (rule "iter.sentinel" >>= _) _ _ _
  refine wpAny_bind (wpAny_rule ?_)
  refine wpAny_bind (wpAny_newObj_type (wpAny_pure ⟨_, rfl, h⟩))

theorem wp_pyIterC {I : Addr} {o : Obj} {E : Value → Shared → Prop} {Q : Value → Shared → Prop} (ho : s.heap.get? I = some o) (hc : o.cls = .type "callable_iterator") (h : Q (.ref I) s) : wpAny (model pg C.w) C.A (pyIter (.ref I)) Q E s := by
  have hT : s.TypeIs (.ref I) "callable_iterator" := ⟨o, ho, hc⟩
  refine wpAny_pyIter_slot hT CI.slot_iter (wpAny_call_entry CI.slot_iter hT CI.entry_iter ?_ (CI.args_iter _))
  show wpAny _ _ (ret (.ref I)) _ _ s
  exact wpAny_pure ⟨_, rfl, "callable_iterator", _, hT, CI.slot_next.lookup, h⟩

/-- x.method as a value -/
theorem PN.bound {eo : Expr} {name : Str} {fa : Addr} (G : C.Good d u) (ho : PE C m nw eo (vIs (.ref x))) (I : Ins C nw x dx c n f)
    (hg : plainGet (KF C.w) c name = true) (hh : hasDictIn (KF C.w) c = true) (ha : findIn (KF C.w) (.ref c) name = some (some (.ref fa))) (hf : PySem.W.isFn (KF C.w) (.ref fa) = true)
    (hgf : specialIn (KF C.w) (.ref fa) "__get__" = some (some (.builtin "function.__get__"))) (ht : takesIn (KF C.w) (.ref fa) = some false) (hc : copiedNames.contains name = false) (hl : f name = none)
    (he : eval (.Attribute eo name p) C.env = (do
      let o ← eval eo C.env
      standAt p.atName
      let r ← holding [o] (getAttr o name true)
      letTemporaryGo eo o r
      pure r)) : PN C m nw (.Attribute eo name p) (fun o => o = methodObj (.ref fa) (.ref x)) := PX.mk fun s E S => by
  refine PyProof.Rows.Attribute_any_ (ho.go S fun o s₁ k S₁ e => ?_) he
  have e : o = .ref x := e
  subst e
  obtain ⟨es, kk, hI, hl', hr, hff⟩ := I.at S₁
  have X := (S₁.gi G).K
  refine get_bind X hI (plainGet_of hg).1 (findObj_fn hh ha hgf ht hc (by show lookIn name (dictOf es kk) = _; rw [lookIn_dict, hff name, hl])) (plainGet_of hg).2
    (wpAny_call (fn_get (s := { s₁ with toks := s₁.toks + 1 }) X (beq_iff_eq.mp hf) (handed_on rfl ?_)))
  refine ⟨keeps_tr k (keeps_push s₁ _ (s₁.toks + 1)), _, ⟨s₁.heap.objs.size, rfl, rfl⟩, fun p hp => ?_, by simp⟩
  rw [List.mem_singleton.mp hp]
  exact ⟨none_of (keepsH k) (Heap.get?_none_of_le (Nat.le_refl _)), _, Heap.get?_push_size _ rfl, rfl⟩

/-- iter(x.method, '') -/
theorem PX.iter {e1 e2 : Expr} {g self : Value} (G : C.Good d u) (h1 : PN C m nw e1 (fun o => o = methodObj g self)) (h2 : ∀ b, PE C m ((b, fun o => o = methodObj g self) :: nw) e2 (vS (Str.ofString "")))
    (hst : starEach [e1, e2] C.env = [(false, eval e1 C.env), (false, eval e2 C.env)] := by rfl)
    (hx : nsIn (KF C.w) mainGlobals "iter" = some none := by rfl) (hl : C.env.kindOf "iter" = some .globalImplicit := by first | kernel_rfl | rfl) :
    PX C m nw (.Call (.Name "iter" p) [e1, e2] [] q) (fun v ext => ∃ I b t, v = .ref I ∧ ext = [(I, fun o => o = citO b t), (b, fun o => o = methodObj g self)]) := PX.mk fun s E S => by
  refine wpAny_Call_NameR ((PE.bglob G hx (v := .builtin "iter") (by decide +kernel) (by decide +kernel) hl).go S fun v s₁ k₁ S₁ z => ?_)
  have z : v = _ := z
  subst z
  rw [hst]
  refine callWith_builtin rfl (Calls.evalArgs_plain (Calls.spliced_cons (h1.go S₁ fun v s₂ ext k₂ S₂' S₂ f₂ fr => ?_)))
  obtain ⟨b, rfl, rfl⟩ := f₂
  refine Calls.spliced_cons ((h2 b).go S₂ fun v s₃ k₃ S₃ e₃ => Calls.spliced_nil ?_)
  obtain ⟨t, rfl⟩ := e₃
  obtain ⟨o, hb, rfl⟩ := S₃.at (.head _)
  refine wp_iter hb ?_
  refine ⟨keeps_tr k₁ (keeps_tr k₂ (keeps_tr k₃ (keeps_push s₃ _ s₃.toks))), _, ⟨s₃.heap.objs.size, b, t, rfl, rfl⟩, fun p hp => ?_, ?_⟩
  · rcases List.mem_cons.mp hp with rfl | hp
    · exact ⟨none_of (keepsH (keeps_tr k₁ (keeps_tr k₂ k₃))) (Heap.get?_none_of_le (Nat.le_refl _)), _, Heap.get?_push_size _ rfl, rfl⟩
    · rw [List.mem_singleton.mp hp]
      exact ⟨none_of (keepsH k₁) (fr.1 _ (.head _)).1, _, Heap.get?_push_of_some _ hb, rfl⟩
  · simp only [List.map_cons, List.map_nil, List.nodup_cons, List.mem_singleton, List.not_mem_nil, not_false_eq_true, List.nodup_nil, and_true]
    exact fun e => Nat.ne_of_lt (Heap.lt_size hb) e.symm

/-- the next of an iterator -/
structure NX (C : Cx) (I : Addr) (Q : Option Value → Shared → Prop) (s : Shared) : Prop where
  run : wpAny (model pg C.w) C.A (pyNext (.ref I)) Q (fun _ _ => False) s

theorem nx_ended {I : Addr} {Q : Option Value → Shared → Prop} (hh : C.A.handled = none) (S : C.St m nw s) (hI : (I, fun o => o = citE) ∈ nw) (h : ∀ s', C.St m nw s' → Q none s') : NX C I Q s := ⟨by
  obtain ⟨o, ho, rfl⟩ := S.at hI
  have hT : s.TypeIs (.ref I) "callable_iterator" := ⟨_, ho, rfl⟩
  unfold pyNext
  refine wpAny_bind (wpAny_attempt (wpAny_callSpecial?_slot (name := Str.ofString "__next__") hT CI.slot_next
    (wpAny_call_entry CI.slot_next hT CI.entry_next ?_ (CI.args_next _))))
  show wpAny _ _ (field (.ref I) 2 >>= _) _ _ s
  refine wpAny_bind (wpAny_field ho rfl (x := .bool true) rfl ?_)
  show wpAny _ _ (rule "callable_iterator.__next__.ended" >>= _) _ _ s
  refine wpAny_bind (wpAny_rule ?_)
  refine wpAny_bind ?_
  show wpAny _ _ (newExc (.type "StopIteration") [] >>= _) _ _ _
  refine wpAny_bind ?_
  simp only [newExc, newTuple]
  refine wpAny_bind (wpAny_newObj_type ?_ (by size_fits))
  refine wpAny_bind (m := firstArgMember _ _) (wpAny_of_eq (a := Value.none) (by first | rfl | (simp only [firstArgMember]; rfl)) ?_)
  refine wpAny_newObj_type ?_ (by size_fits)
  simp only [raiseNew]
  refine wpAny_bind (wpAny_handled ?_)
  first | rw [show C.A.in1.handled = none from hh] | rw [hh]
  refine wpAny_bind (wpAny_pure (wpAny_throw ?_))
  refine wpAny_bind (wpAny_isInstance (T := "StopIteration") (b := true) ⟨_, Heap.get?_push_size _ rfl, rfl⟩ isSubtype_stop ?_)
  exact wpAny_pure (h _ (S.keeps (keeps_tr (keeps_push s _ s.toks) (keeps_push _ _ s.toks)) (Nat.le_refl _)))⟩

/-- the next of an iterator over a bound method's calls -/
theorem nx_call {I b g : Addr} {t : Tok} {self : Value} {Q : Option Value → Shared → Prop} {y : Str} {F : Ld → Prop} (G : C.Good d u) (S : C.St m nw s) (hI : (I, fun o => o = citO b t) ∈ nw) (hb : (b, fun o => o = methodObj (.ref g) self) ∈ nw) (hg : Mine.isFn (KF C.w) g = true)
    (hc : codeAny (model pg C.w) C.A.in1 (.call (.ref g) ⟨[self], []⟩) (fun r s' => ∃ v nw', r = .ok (.ret v) ∧ ((∃ t, v = .str y t) ∧ F nw') ∧ C.St m nw' s') s)
    (hI' : ∀ nw', F nw' → (b, fun o => o = methodObj (.ref g) self) ∈ nw' ∧ ∃ nw'', Ch I (fun o => o = citO b t) (fun o => o = citE) nw' nw'')
    (hsome : y ≠ Str.ofString "" → ∀ nw' t s', F nw' → C.St m nw' s' → Q (some (.str y t)) s')
    (hnone : y = Str.ofString "" → ∀ nw' nw'' s', F nw' → Ch I (fun o => o = citO b t) (fun o => o = citE) nw' nw'' → C.St m nw'' s' → Q none s') : NX C I Q s := ⟨by
  obtain ⟨o, ho, rfl⟩ := S.at hI
  obtain ⟨ob, hob, rfl⟩ := S.at hb
  obtain ⟨og, fd, hgo, hfd⟩ := isFn.of hg
  have hgo' := (S.gi G).K _ _ hgo
  have hh := G.ok.handled
  have hT : s.TypeIs (.ref I) "callable_iterator" := ⟨_, ho, rfl⟩
  have borrows : ∀ {s : Shared} {Q : Bool → Shared → Prop} {E : Value → Shared → Prop}, s.heap.get? b = some (methodObj (.ref g) self) → s.heap.get? g = some og → Q true s → wpAny (model pg C.w) C.A.in1 (borrowsExactly (.ref b)) Q E s := by
    intro s Q E hob hgo' h
    unfold borrowsExactly
    refine wpAny_bind (wpAny_load hob ?_)
    dsimp only
    rw [if_pos (by decide)]
    refine wpAny_bind (wpAny_load hgo' ?_)
    rw [hfd]
    exact wpAny_pure h
  unfold pyNext
  refine wpAny_bind (wpAny_attempt (wpAny_callSpecial?_slot (name := Str.ofString "__next__") hT CI.slot_next
    (wpAny_call_entry CI.slot_next hT CI.entry_next ?_ (CI.args_next _))))
  show wpAny _ _ (field (.ref I) 2 >>= _) _ _ s
  refine wpAny_bind (wpAny_field ho rfl (x := .bool false) rfl ?_)
  show wpAny _ _ (field (.ref I) 0 >>= _) _ _ s
  refine wpAny_bind (wpAny_field ho rfl (x := .ref b) rfl ?_)
  refine wpAny_bind (wpAny_attempt ?_)
  unfold callOutOfASlot
  refine wpAny_bind (borrows hob hgo' ?_)
  rw [if_pos rfl]
  refine wpAny_callBorrowed (method_call hob (codeAny_mono hc fun r s' z => ?_))
  obtain ⟨v, nw', rfl, ⟨⟨t', rfl⟩, hF⟩, S'⟩ := z
  obtain ⟨hb', nw'', hch⟩ := hI' nw' hF
  obtain ⟨o', ho', rfl⟩ := S'.at hch.mem
  obtain ⟨ob', hob', rfl⟩ := S'.at hb'
  have hgo'' := (S'.gi G).K _ _ hgo
  show wpAny _ _ (field (.ref I) 2 >>= _) _ _ s'
  refine wpAny_bind (wpAny_field ho' rfl (x := .bool false) rfl ?_)
  show wpAny _ _ (field (.ref I) 1 >>= _) _ _ s'
  refine wpAny_bind (wpAny_field ho' rfl (x := .str (Str.ofString "") t) rfl ?_)
  refine wpAny_bind (wpAny_holding (wpAny_eqBool_str ?_))
  by_cases hy : Str.ofString "" = y
  · rw [decide_eq_true hy]
    show wpAny _ _ (rule "callable_iterator.__next__.sentinel" >>= _) _ _ _
    refine wpAny_bind (wpAny_rule ?_)
    show wpAny _ _ (_ >>= _) _ _ _
    refine wpAny_bind ?_
    show wpAny _ _ (field (.ref I) 0 >>= _) _ _ s'
    refine wpAny_bind (wpAny_field ho' rfl (x := .ref b) rfl ?_)
    refine wpAny_bind ?_
    unfold slotLetsGo
    dsimp only
    refine wpAny_bind (borrows hob' hgo'' ?_)
    rw [if_pos rfl]
    refine wpAny_pure ?_
    refine wpAny_bind (wpAny_setField_rec ho' (by simp) fun h₁ e₁ s₁ => ?_)
    refine wpAny_bind (wpAny_setField_rec e₁ (by simp) fun h₂ e₂ s₂ => ?_)
    refine wpAny_setField_rec e₂ (by simp) fun h₃ e₃ s₃ => ?_
    have S₃ := S'.ch (k := s'.toks) hch ((s₁.trans s₂).trans s₃) e₃ rfl (Nat.le_refl _)
    show wpAny _ _ (newExc (.type "StopIteration") [] >>= _) _ _ _
    refine wpAny_bind ?_
    simp only [newExc, newTuple]
    refine wpAny_bind (wpAny_newObj_type ?_ (by size_fits))
    refine wpAny_bind (m := firstArgMember _ _) (wpAny_of_eq (a := Value.none) (by first | rfl | (simp only [firstArgMember]; rfl)) ?_)
    refine wpAny_newObj_type ?_ (by size_fits)
    simp only [raiseNew]
    refine wpAny_bind (wpAny_handled ?_)
    first | rw [show C.A.in1.handled = none from hh] | rw [hh]
    refine wpAny_bind (wpAny_pure (wpAny_throw ?_))
    refine wpAny_bind (wpAny_isInstance (T := "StopIteration") (b := true) ⟨_, Heap.get?_push_size _ rfl, rfl⟩ isSubtype_stop ?_)
    exact wpAny_pure (hnone hy.symm nw' nw'' _ hF hch (S₃.keeps (keeps_tr (keeps_push _ _ s'.toks) (keeps_push _ _ s'.toks)) (Nat.le_refl _)))
  · rw [decide_eq_false hy]
    show wpAny _ _ (ret _) _ _ _
    exact wpAny_pure ⟨_, rfl, wpAny_pure (hsome (fun e => hy e.symm) nw' t' s' hF S')⟩⟩

/-- for target in an iterator that is walked by others too -/
theorem s_forNext {target iter : Expr} {I : Addr} (Inv : Nat → (Str → Option Value) → Ld → Prop) (k : Nat) (S : C.St m nw s) (hi : PE C m nw iter (vIs (.ref I))) (hI : ∃ O : OP, (I, O) ∈ nw ∧ ∀ o, O o → o.cls = .type "callable_iterator") (h0 : Inv k m nw)
    (hturn : ∀ k m₁ nw₁ s₁, Inv k m₁ nw₁ → C.St m₁ nw₁ s₁ → NX C I (fun r s₂ => match r with
      | none => Ex C rest Q s₂
      | some v => (∃ o, s₂.heap.get? I = some o ∧ plainIter o) ∧ As C target v (Ex C body (fun fl s₃ => match fl with
        | .next | .cont => ∃ k' m₂ nw₂, k' < k ∧ Inv k' m₂ nw₂ ∧ C.St m₂ nw₂ s₃
        | .ret v => Q (.ret v) s₃
        | .brk => Ex C rest Q s₃)) s₂) s₁)
    (hs : ∀ x, foldedSetIterable iter C.env x = pure x := by intro _; rfl) : Ex C (.For target iter body [] p :: rest) Q s := by
  refine ex_cons (wpAny_For (hi.go S fun v s₁ k₁ S₁ e => ?_) hs)
  have e : v = .ref I := e
  subst e
  obtain ⟨O, hm, hO⟩ := hI
  obtain ⟨o, ho, hoO⟩ := S₁.at hm
  refine wp_pyIterC (C := C) ho (hO o hoO) ?_
  refine codeAny_forLoop_any (fun k s' => ∃ m₁ nw₁, Inv k m₁ nw₁ ∧ C.St m₁ nw₁ s') ?_ k ⟨m, nw, h0, S₁⟩
  rintro k s' ⟨m₁, nw₁, hinv, S'⟩
  refine wpAny_mono (hturn k m₁ nw₁ s' hinv S').run (fun r s₂ z => ?_) fun _ _ z => z.elim
  cases r with
  | none => exact wpAny_execs_nil z
  | some v =>
    obtain ⟨⟨o, ho, hp⟩, z⟩ := z
    refine wp_letOwned (C := C) ho hp ?_
    refine wpAny_mono z.run (fun _ s₃ z => wpAny_mono z.run (fun fl s₄ z => ?_) fun _ _ z => z.elim) fun _ _ z => z.elim
    cases fl with
    | next => obtain ⟨k', m₂, nw₂, a, b, c⟩ := z; exact ⟨k', a, m₂, nw₂, b, c⟩
    | cont => obtain ⟨k', m₂, nw₂, a, b, c⟩ := z; exact ⟨k', a, m₂, nw₂, b, c⟩
    | brk => exact z
    | ret v => exact z
end
end
end Mine

-- part F15
namespace Mine
noncomputable section

def LexS.adv (pg : Str) (σ : LexS) (t : Tok) : LexS := ⟨σ.pos + 1, if chAt pg σ.pos = Str.ofString "\n" then σ.ln + 1 else σ.ln, t, σ.ws⟩
section
variable {C : Cx} {m m' : Str → Option Value} {nw nw' : Ld} {s : Shared} {Q : Flow → Shared → Prop} {rest body : List Stmt} {p q : Pos} {d u : Nat} {x dx c : Addr} {n : Nat} {f : Str → Option Value}

/-- x.name(..), a function in the object's own dict -/
theorem ME.ownFn {eo : Expr} {name : Str} {fa : Addr} {fo : Obj} {es : List Expr} {Ps : List VP} {F : Value → Ld → Prop} {apos cpos : Pos} (G : C.Good d u) (ho : PE C m nw eo (vIs (.ref x))) (I : Ins C nw x dx c n f) (ha : PAs C m nw es Ps)
    (hg : plainGet (KF C.w) c name = true) (hh : hasDictIn (KF C.w) c = true) (hf : findIn (KF C.w) (.ref c) name = some none) (hl : f name = some (.ref fa)) (hfo : (fa, fun o => o = fo) ∈ nw) (hfd : ∃ oc od fd sl, fo = ⟨oc, od, .func fd, sl⟩)
    (hc : ∀ s vs, C.St m nw s → AllP Ps vs → codeAny (model pg C.w) C.A (.call (.ref fa) ⟨vs, []⟩) (RetM C m F) s)
    (hcall : McEq C eo name apos es cpos) : ME C m nw (.Call (.Attribute eo name apos) es [] cpos) F := ⟨fun s S => by
  refine MethodCall_ (ho.go S fun v s₁ k₁ S₁ e => ?_) hcall
  have e : v = .ref x := e
  subst e
  obtain ⟨es', kk, hI, hl', hr, hff⟩ := I.at S₁
  have X := (S₁.gi G).K
  refine method_usual X hI (plainGet_of hg).1 (plainGet_of hg).2 hf rfl ?_
  refine get_own S₁.fr (G.gi.K) hI hg hh hf rfl ((hff name).trans (congrArg some hl)) rfl ?_
  have S₂ : C.St m nw { s₁ with toks := s₁.toks + 1 } := S₁.keeps (keeps_tok s₁ _) (Nat.le_succ _)
  refine callWith_of (P := FnAt fa) (by rw [ha.plain]; rfl) keeps_F (ha.args S₂ fun vs s₂ k₂ S₃ hv => ?_)
  obtain ⟨o, hfa, rfl⟩ := S₃.at hfo
  obtain ⟨oc, od, fd, sl, rfl⟩ := hfd
  refine ⟨⟨_, _, _, _, hfa⟩, wpAny_call (codeAny_mono (hc s₂ vs S₃ hv) fun r s₃ z => ?_)⟩
  obtain ⟨v, nw', rfl, f, S₃⟩ := z
  exact ⟨nw', f, S₃⟩⟩
end

section
variable {C : Cx} {m m' : Str → Option Value} {nw nw' : Ld} {s : Shared} {Q : Flow → Shared → Prop} {rest body : List Stmt} {p q : Pos} {d u : Nat} {a : LexA} {σ : LexS} {X R : Ld}
theorem lexIns : Ins C (X ++ (lexL a σ ++ R)) a.x a.dx 80 a.n (lexF σ.ln σ.t (.ref a.b) a.t2 a.pb) :=
  ⟨lexL.sub (.head _), lexL.sub (.tail _ (.head _))⟩
theorem lexBox : Ins C (X ++ (lexL a σ ++ R)) a.b a.db 80 a.k a.boxF :=
  ⟨lexL.sub (.tail _ (.tail _ (.tail _ (.head _)))), lexL.sub (.tail _ (.tail _ (.tail _ (.tail _ (.head _)))))⟩
/-- a field of the lexer's -/
theorem PE.lex {eo : Expr} {name : Str} {v : Value} (a : LexA) (σ : LexS) (X R : Ld) (G : C.Good d u) (ho : PE C m (X ++ (lexL a σ ++ R)) eo (vIs (.ref a.x))) (hv : lexF σ.ln σ.t (.ref a.b) a.t2 a.pb name = some v) (hho : handedIn v = true)
    (ha : findIn (KF C.w) (.ref 80) name = some none)
    (he : eval (.Attribute eo name p) C.env = (do
      let o ← eval eo C.env
      standAt p.atName
      let r ← holding [o] (getAttr o name true)
      letTemporaryGo eo o r
      pure r)) : PE C m (X ++ (lexL a σ ++ R)) (.Attribute eo name p) (vIs v) :=
  PE.attr G ho lexIns none (by kernel_rfl) (by kernel_rfl) ha (by kernel_rfl) hv hho he

theorem fn_char (G : C.Good (d + 2) (u + 6)) (ok : LexOk C.w a) (S : C.St m (X ++ (lexL a σ ++ R)) s) :
    codeAny (model pg C.w) C.A (.call (.ref 63) ⟨[.ref a.x], []⟩) (RetM C m fun v nw' => (∃ t, v = .str (chAt a.page σ.pos) t) ∧ ∃ t', nw' = X ++ (lexL a (σ.adv a.page t') ++ R)) s := by
  refine fnCallMX (d := d + 1) (u := u + 3) G S (f := 63) (binds := [("self", .ref a.x)]) rfl rfl rfl (locs rfl) (fun L s₁ G S => ?_)
  have S : (CMX C 63 L).St _ (((C.env.locals, oNs m) :: X) ++ (lexL a σ ++ R)) s₁ := S
  have ok' := ok
  obtain ⟨doc, pm, ctv, hrd⟩ := ok.rdO
  refine s_assignM S (ME.ownFn (x := a.b) (dx := a.db) (c := 80) (n := a.k) (f := a.boxF) (fa := a.rd) (fo := a.rdO) (Ps := [vI 1]) G
    (PE.lex a σ ((C.env.locals, oNs m) :: X) R G (PE.loc (v := .ref a.x) rfl) (v := .ref a.b) rfl rfl (by kernel_rfl) (by kernel_rfl)) (lexBox (X := (C.env.locals, oNs m) :: X)) (.cons PE.kI .nil)
    (by kernel_rfl) (by kernel_rfl) (by kernel_rfl) ok.read (lexL.sub (.tail _ (.tail _ (.tail _ (.tail _ (.tail _ (.head _)))))))
    ⟨_, _, _, _, hrd⟩ (fun s vs S av => ?_) (by kernel_rfl)) (F := fun v nw' => (∃ t, v = .str (chAt a.page σ.pos) t) ∧ nw' = ((C.env.locals, oNs m) :: X) ++ (lexL a { σ with pos := σ.pos + 1 } ++ R)) (fun v nw' s₂ h S => ?_)
  · cases av with
    | cons e av => cases av; obtain ⟨t, rfl⟩ := e; exact fn_read G ok' S
  obtain ⟨⟨t, rfl⟩, rfl⟩ := h
  have hb : (((chAt a.page σ.pos).cps.toList == (Str.ofString "\n").cps.toList) = true) = (chAt a.page σ.pos = Str.ofString "\n") := by
    rw [beq_iff_eq]; exact propext ⟨fun e => str_ext e, fun e => by rw [e]⟩
  refine s_if S (PT.eqS (PE.locS (t := t) rfl) PE.kS) (fun hc s₃ S => ?_) (fun hc s₃ S => ?_)
  · have hc : chAt a.page σ.pos = Str.ofString "\n" := hb ▸ hc
    refine s_augAttrI (x := a.x) (dx := a.dx) (c := 80) (n := a.n) (f := lexF σ.ln σ.t (.ref a.b) a.t2 a.pb) (i := σ.ln) (t := σ.t) G S (PE.loc (v := .ref a.x) rfl) (lexIns (X := (C.env.locals, oNs m) :: X) (σ := { σ with pos := σ.pos + 1 })) PE.kI (by have := ok.n; omega) none (by kernel_rfl) (by kernel_rfl) (by kernel_rfl) (by kernel_rfl) rfl (by kernel_rfl) (by kernel_rfl) (by kernel_rfl) (fun t' => ?_)
    refine ⟨((C.env.locals, oNs m) :: X) ++ (lexL a (σ.adv a.page t') ++ R), ?_, fun s₄ S => s_nil (s_ret S (PE.locS (t := t) rfl) fun v ext s₅ h S => ?_)⟩
    · refine lexL.chg (X := (C.env.locals, oNs m) :: X) ?_
      have e : updA (lexF σ.ln σ.t (.ref a.b) a.t2 a.pb) "lineno" (.int (σ.ln + 1) t') = lexF (σ.ln + 1) t' (.ref a.b) a.t2 a.pb := by
        funext y; unfold updA lexF
        by_cases h1 : y = "lineno"
        · subst h1; rfl
        · simp only [h1, if_false]
      have e2 : lexL a (σ.adv a.page t') = lexL a ⟨σ.pos + 1, σ.ln + 1, t', σ.ws⟩ := by unfold LexS.adv; rw [if_pos hc]
      rw [e, e2]
      exact .tail .head
    · obtain ⟨h1, rfl⟩ := h
      exact ⟨_, _, _, .inl rfl, ⟨h1, t', rfl⟩, S⟩
  · have hc : ¬ chAt a.page σ.pos = Str.ofString "\n" := fun e => by rw [← hb] at e; rw [e] at hc; cases hc
    refine s_nil (s_ret S (PE.locS (t := t) rfl) fun v ext s₅ h S => ?_)
    obtain ⟨h1, rfl⟩ := h
    have e2 : lexL a (σ.adv a.page σ.t) = lexL a { σ with pos := σ.pos + 1 } := by unfold LexS.adv; rw [if_neg hc]
    exact ⟨_, _, _, .inl rfl, ⟨h1, σ.t, rfl⟩, by rw [e2]; exact S⟩

theorem fn_push {y : Str} {t : Tok} (G : C.Good (d + 1) (u + 3)) (hz : σ.ws.length ≤ 1000) (S : C.St m (X ++ (lexL a σ ++ R)) s) :
    codeAny (model pg C.w) C.A (.call (.ref 77) ⟨[.ref a.x, .str y t], []⟩) (RetM C m fun v nw' => v = .none ∧ nw' = X ++ (lexL a { σ with ws := σ.ws ++ [y] } ++ R)) s := by
  refine fnCallMX G S (f := 77) (binds := [("self", .ref a.x), ("token", .str y t)]) rfl rfl rfl (locs rfl) (fun L s₁ G S => ?_)
  have S : (CMX C 77 L).St _ (((C.env.locals, oNs m) :: X) ++ (lexL a σ ++ R)) s₁ := S
  refine s_append (a := a.pb) (Ps := σ.ws.map vS) S (PE.lex a σ ((C.env.locals, oNs m) :: X) R G (PE.loc (v := .ref a.x) rfl) (v := .ref a.pb) rfl rfl (by kernel_rfl) (by kernel_rfl)) (lexL.sub (.tail _ (.tail _ (.head _))))
    (by rw [List.length_map, sizeLine_eq]; omega) (PE.locS (t := t) rfl) (fun v ext s₂ h S => ?_)
  obtain ⟨h1, rfl⟩ := h
  refine ⟨vS y, ((C.env.locals, oNs m) :: X) ++ (lexL a { σ with ws := σ.ws ++ [y] } ++ R), h1, lexL.chg (X := (C.env.locals, oNs m) :: X) ?_, fun s₃ S => s_nil ⟨.none, _, _, .inr ⟨rfl, rfl⟩, ⟨rfl, rfl⟩, S⟩⟩
  have e : (σ.ws.map vS ++ [vS y]) = (σ.ws ++ [y]).map vS := by rw [List.map_append]; rfl
  rw [e]
  exact .tail (.tail .head)
end
end
end Mine

-- part L17
namespace Mine
noncomputable section

theorem slice1 (i n : Nat) : Builtin.Str.strSliceIndices (some (i : Int)) (some ((i : Int) + 1)) 1 n = if i < n then [i] else [] := by
  unfold Builtin.Str.strSliceIndices sliceRange
  simp only [show (1 : Int) > 0 by decide, if_true, Int.ediv_one]
  have h0 : ¬ ((i : Int) < 0) := by omega
  have h1 : ¬ ((i : Int) + 1 < 0) := by omega
  rw [if_neg h0, if_neg h1]
  by_cases h : i < n
  · have e1 : max 0 (min (i : Int) n) = i := by omega
    have e2 : max 0 (min ((i : Int) + 1) n) = i + 1 := by omega
    rw [if_pos h, e1, e2, if_pos (by omega)]
    have e3 : ((i : Int) + 1 - i + 1 - 1).toNat = 1 := by omega
    rw [e3]
    simp
  · have e1 : max 0 (min (i : Int) n) = n := by omega
    have e2 : max 0 (min ((i : Int) + 1) n) = n := by omega
    rw [if_neg h, e1, e2, if_neg (by omega)]
    rfl
theorem chAt_cps (x : Str) (i : Nat) : cpsL (chAt x i) = ((cpsL x).drop i).take 1 := by
  unfold chAt Txt.slice
  have hl : (cpsL x).length = x.length := by simp [Str.length]
  rw [slice1]
  by_cases h : i < x.length
  · rw [if_pos h]
    have hx : (cpsL x)[i]? = some (cpsL x)[i] := List.getElem?_eq_getElem (by omega)
    have ed : ((cpsL x).drop i).take 1 = [(cpsL x)[i]'(by omega)] := by
      rw [List.drop_eq_getElem_cons (by omega)]; rfl
    by_cases h1 : x.length = 1
    · rw [if_pos (by simp [h1])]
      have : i = 0 := by omega
      subst this
      have hc : (cpsL x).length = 1 := by omega
      match e : cpsL x, hc with
      | [c], _ => rfl
    · rw [if_neg (by simp; omega), ed]
      have : x.cps[i]? = some ((cpsL x)[i]'(by omega)) := by simpa [cpsL] using hx
      simp [cpsL, this]
  · rw [if_neg h, List.drop_eq_nil_of_le (by omega)]
    by_cases h0 : x.length = 0
    · rw [if_pos (by simp [h0])]
      exact List.length_eq_zero_iff.mp (by omega)
    · rw [if_neg (by simp; omega)]; rfl
/-- where the lexer stands: what is left of the page; the lines told -/
structure LAt (a : LexA) (σ : LexS) (l : List Nat) : Prop where
  rem : (cpsL a.page).drop σ.pos = l
  ln : σ.ln = 1 + (((cpsL a.page).take σ.pos).count 10 : Nat)
theorem LAt.ch {a : LexA} {σ : LexS} {l : List Nat} (h : LAt a σ l) : chAt a.page σ.pos = ⟨(l.take 1).toArray⟩ := str_ext (by rw [chAt_cps, h.rem])
theorem LAt.adv {a : LexA} {σ : LexS} {l : List Nat} (h : LAt a σ l) (t : Tok) : LAt a (σ.adv a.page t) l.tail := by
  refine ⟨?_, ?_⟩
  · show (cpsL a.page).drop (σ.pos + 1) = _
    rw [← h.rem, List.tail_drop]
  · show (if chAt a.page σ.pos = Str.ofString "\n" then σ.ln + 1 else σ.ln) = 1 + (((cpsL a.page).take (σ.pos + 1)).count 10 : Nat)
    rw [h.ch, List.take_add_one (l := cpsL a.page), List.count_append, h.ln]
    have hr := h.rem
    cases l with
    | nil =>
      have e : (cpsL a.page)[σ.pos]? = none := by
        rw [List.getElem?_eq_none]
        exact List.drop_eq_nil_iff.mp hr
      rw [e, if_neg (show ¬ (⟨(List.take 1 ([] : List Nat)).toArray⟩ : Str) = Str.ofString "\n" from by decide +kernel)]; simp
    | cons c l =>
      have e : (cpsL a.page)[σ.pos]? = some c := by
        have := congrArg (fun x => x[0]?) hr
        simpa using this
      rw [e]
      by_cases hc : c = 10
      · subst hc
        rw [if_pos (show (⟨(List.take 1 (10 :: l)).toArray⟩ : Str) = Str.ofString "\n" from by show (⟨#[10]⟩ : Str) = _; decide +kernel)]
        simp; omega
      · rw [if_neg (fun q => hc (by
          have := congrArg cpsL q
          have e2 : cpsL (Str.ofString "\n") = [10] := by decide +kernel
          rw [e2] at this
          simpa [cpsL] using this))]
        simp [List.count_cons, hc]

section
variable {C : Cx} {m m' : Str → Option Value} {nw nw' : Ld} {s : Shared} {Q : Flow → Shared → Prop} {rest body : List Stmt} {p q : Pos} {d u : Nat} {a : LexA} {σ : LexS} {X R : Ld}
theorem PT.truthL {e : Expr} {l : Addr} {Ps : List VP} (he : PE C m nw e (vIs (.ref l))) (hl : (l, oL Ps) ∈ nw) (hz : (Ps.length : Int) < 2 ^ 63) (hp : isTrue e C.env (eval e C.env) = (do let v ← eval e C.env; standAt e.pos; holding [v] (truthy v)) := by rfl) : PT C m nw e (!Ps.isEmpty) := PT.mk fun s E S =>
  isTrue_plain (he.go S fun v s₁ k S₁ e => by
    have e : v = .ref l := e
    subst e
    obtain ⟨o, ho, vs, j, rfl, av⟩ := S₁.at hl
    refine wpAny_truthy_list (isList_of ho) (by rw [List.size_toArray, av.length]; exact hz) ⟨keeps_tr k (keeps_tok s₁ _), ?_⟩
    cases av <;> rfl) hp
/-- xs.pop(0) -/
theorem ME.pop0 {ox : Expr} {l : Addr} {P : VP} {Ps : List VP} {apos cpos p1 : Pos} {k : Nat} (ho : PE C m nw ox (vIs (.ref l))) (hch : Ch l (oL (P :: Ps)) (oL Ps) nw nw') (hz : Ps.length < 100000)
    (hcall : McEq C ox "pop" apos [.Constant (.int 0) k p1] cpos) : ME C m nw (.Call (.Attribute ox "pop" apos) [.Constant (.int 0) k p1] [] cpos) (fun v nw₂ => P v ∧ nw₂ = nw') := ⟨fun s S => by
  refine MethodCall_ (ho.go S fun v s₁ k₁ S₁ e => ?_) hcall
  have e : v = .ref l := e
  subst e
  obtain ⟨o, hg, vs, kk, rfl, av⟩ := S₁.at hch.mem
  refine getMethod_builtin ⟨_, hg, rfl⟩ PySem.F.plainAttrs_list PySem.F.slot_list_pop PySem.F.type_list_pop (fun a e => by cases e; exact ⟨_, hg, rfl⟩) ?_
  refine callWith_builtin rfl (Calls.evalArgs_plain (Calls.spliced_cons ((PE.kI (k := k) (p := p1)).go S₁ fun v s₂ k₂ S₂ e₂ => Calls.spliced_nil ?_)))
  obtain ⟨t, rfl⟩ := e₂
  have hg₂ := keeps_get k₂ hg
  cases av with
  | @cons _ _ y ys py av =>
    have hz' : (y :: ys).toArray.size ≤ sizeLine := by rw [List.size_toArray, List.length_cons, av.length, sizeLine_eq]; omega
    refine call_meets PySem.F.slot_list_pop ⟨_, hg₂, rfl⟩ PySem.F.entry_list_pop (PySem.F.args_list_pop_2 _ _) (PySem.MeetsSeq.list_pop_at l _ kk 0 t 0 y (by decide) (by simp [seqIndex?]) (by simp) hz') ⟨hg₂, ?_⟩
    have hl : (s₂.heap.update l (Obj.mapSeq fun xs => xs.eraseIdxIfInBounds 0)).get? l = some (W.listOf ys.toArray (kk + 1)) := by
      have h1 := IsL.update hg₂ (fun xs => xs.eraseIdxIfInBounds 0)
      refine h1.trans ?_
      have e1 : (y :: ys).toArray.eraseIdxIfInBounds 0 = ys.toArray := kl_erase [] ys y
      show some ({ cls := .type "list", data := .seq ((y :: ys).toArray.eraseIdxIfInBounds 0) (if ((y :: ys).toArray.eraseIdxIfInBounds 0).size == (y :: ys).toArray.size then kk else kk + 1) } : Obj) = _
      rw [e1, if_neg (by simp)]
    exact ⟨nw', ⟨py, rfl⟩, S₂.ch (k := s₂.toks) hch (Heap.SameBut.update ..) hl ⟨ys, kk + 1, rfl, av⟩ (Nat.le_refl _)⟩⟩

theorem Ok.in1 {A : Around} {d u : Nat} (k : Ok A d (u + 1)) : Ok A.in1 d u := ⟨k.depth, by have := k.units; show A.units + 1 + u < 9000; omega, k.handled⟩
abbrev itL (I b : Addr) (OI : OP) (a : LexA) (Z : Ld) : Ld := (I, OI) :: (b, fun o => o = methodObj (.ref 63) (.ref a.x)) :: Z
theorem nx_lex {I b : Addr} {t : Tok} {Z : Ld} {l : List Nat} {Q : Option Value → Shared → Prop} (G : C.Good (d + 2) (u + 7)) (ok : LexOk C.w a) (hat : LAt a σ l) (S : C.St m (itL I b (fun o => o = citO b t) a Z ++ (lexL a σ ++ R)) s)
    (hsome : ∀ c cs t' σ' s', l = c :: cs → LAt a σ' cs → σ'.ws = σ.ws → C.St m (itL I b (fun o => o = citO b t) a Z ++ (lexL a σ' ++ R)) s' → Q (some (.str (one1 c) t')) s')
    (hnone : ∀ σ' s', l = [] → LAt a σ' [] → σ'.ws = σ.ws → C.St m (itL I b (fun o => o = citE) a Z ++ (lexL a σ' ++ R)) s' → Q none s') : NX C I Q s := by
  have G' : ({ C with A := C.A.in1 } : Cx).Good (d + 2) (u + 6) := ⟨G.gi, G.ok.in1, G.kind, G.glob, G.bi⟩
  refine nx_call (I := I) (b := b) (g := 63) (t := t) (self := .ref a.x) (y := chAt a.page σ.pos) (F := fun nw' => ∃ t', nw' = itL I b (fun o => o = citO b t) a Z ++ (lexL a (σ.adv a.page t') ++ R)) G S (.head _) (.tail _ (.head _)) (by kernel_rfl)
    (codeAny_mono (fn_char (d := d) (u := u) G' ok S.withA) fun r s' z => ?_) ?_ ?_ ?_
  · obtain ⟨v, nw', rfl, h, S'⟩ := z
    exact ⟨v, nw', rfl, h, S'.ofA⟩
  · rintro nw' ⟨t', rfl⟩
    exact ⟨.tail _ (.head _), _, .head⟩
  · rintro hne nw' t' s' ⟨t₂, rfl⟩ S'
    rw [hat.ch] at hne ⊢
    cases l with
    | nil => exact absurd (by decide +kernel) hne
    | cons c cs => exact hsome c cs t' _ s' rfl (hat.adv t₂) rfl S'
  · rintro he nw' nw'' s' ⟨t₂, rfl⟩ hch S'
    rw [hat.ch] at he
    cases l with
    | nil =>
      refine hnone _ s' rfl (hat.adv t₂) rfl ?_
      have : nw'' = itL I b (fun o => o = citE) a Z ++ (lexL a (σ.adv a.page t₂) ++ R) := by
        have key : ∀ {l l' : Ld} , Ch I (fun o => o = citO b t) (fun o => o = citE) l l' → ∀ r, l = (I, fun o => o = citO b t) :: r → (l.map (·.1)).Nodup → l' = (I, fun o => o = citE) :: r := by
          intro l l' h
          cases h with
          | head => rintro r e _; cases e; rfl
          | tail h =>
            rintro r e nd
            cases e
            rw [List.map_cons, List.nodup_cons] at nd
            exact absurd (List.mem_map_of_mem (f := (·.1)) h.mem) nd.1
        have nd := S'.nd
        rw [hch.keys] at nd
        exact key hch _ rfl nd
      rw [this] at S'; exact S'
    | cons c cs => exact absurd (congrArg cpsL he) (by
        have e2 : cpsL (Str.ofString "") = [] := by decide +kernel
        rw [e2]; simp [cpsL])
end
end
end Mine

-- part F16
namespace Mine
noncomputable section

def quot : List Nat → List Nat → List Nat × List Nat
  | acc, [] => (acc, [])
  | acc, c :: cs => if c = 34 then (acc, cs) else if c = 92 then (match cs with | [] => (acc, []) | d :: cs' => quot (acc ++ [d]) cs') else quot (acc ++ [c]) cs
def bare : List Nat → List Nat → List Nat × List Nat
  | acc, [] => (acc, [])
  | acc, c :: cs => if c ∈ cpsL wsp then (acc, cs) else if c = 92 then (match cs with | [] => (acc, []) | d :: cs' => bare (acc ++ [d]) cs') else bare (acc ++ [c]) cs
def lexT : List Nat → List Nat × List Nat
  | [] => ([], [])
  | c :: cs => if c ∈ cpsL wsp then lexT cs else if c = 34 then quot [] cs else if c = 92 then bare (cs.take 1) cs.tail else bare [c] cs

theorem quot_nil {acc : List Nat} : quot acc [] = (acc, []) := by rw [quot.eq_def]
theorem quot_end {acc cs : List Nat} {c : Nat} (h : c = 34) : quot acc (c :: cs) = (acc, cs) := by rw [quot.eq_def]; simp [h]
theorem quot_esc {acc cs : List Nat} {c : Nat} (h : c ≠ 34) (h2 : c = 92) : quot acc (c :: cs) = quot (acc ++ cs.take 1) cs.tail := by
  rw [quot.eq_def]; subst h2
  cases cs with
  | nil => simp [quot_nil]
  | cons d cs => simp
theorem quot_on {acc cs : List Nat} {c : Nat} (h : c ≠ 34) (h2 : c ≠ 92) : quot acc (c :: cs) = quot (acc ++ [c]) cs := by rw [quot.eq_def]; simp [h, h2]
theorem bare_nil {acc : List Nat} : bare acc [] = (acc, []) := by rw [bare.eq_def]
theorem bare_end {acc cs : List Nat} {c : Nat} (h : c ∈ cpsL wsp) : bare acc (c :: cs) = (acc, cs) := by rw [bare.eq_def]; dsimp only; rw [if_pos h]
theorem bare_esc {acc cs : List Nat} {c : Nat} (h : c ∉ cpsL wsp) (h2 : c = 92) : bare acc (c :: cs) = bare (acc ++ cs.take 1) cs.tail := by
  rw [bare.eq_def]; dsimp only; rw [if_neg h, if_pos h2]
  cases cs with
  | nil => simp [bare_nil]
  | cons d cs => simp
theorem bare_on {acc cs : List Nat} {c : Nat} (h : c ∉ cpsL wsp) (h2 : c ≠ 92) : bare acc (c :: cs) = bare (acc ++ [c]) cs := by rw [bare.eq_def]; dsimp only; rw [if_neg h, if_neg h2]

structure TkI (a : LexA) (I : Addr) (m₁ : Str → Option Value) (acc : List Nat) : Prop where
  self : m₁ "self" = some (.ref a.x)
  fit : m₁ "fiter" = some (.ref I)
  tok : ∃ t, m₁ "token" = some (.str ⟨acc.toArray⟩ t)
theorem TkI.ch {a : LexA} {I : Addr} {m₁ : Str → Option Value} {acc : List Nat} {v : Value} (h : TkI a I m₁ acc) : TkI a I (upd m₁ "ch" v) acc := ⟨h.self, h.fit, h.tok⟩
theorem TkI.token {a : LexA} {I : Addr} {m₁ : Str → Option Value} {acc acc' : List Nat} {t : Tok} (h : TkI a I m₁ acc) : TkI a I (upd m₁ "token" (.str ⟨acc'.toArray⟩ t)) acc' := ⟨h.self, h.fit, t, rfl⟩

/-- within a walk of the iterator: what is left of it (G), or its end -/
inductive TkS (a : LexA) (I b : Addr) (t : Tok) (Z R : Ld) (T : List Nat × List Nat) (G : List Nat → List Nat → Prop) (k : Nat) (m₁ : Str → Option Value) (nw₁ : Ld) : Prop
  | live (σ : LexS) (l acc : List Nat) : TkI a I m₁ acc → LAt a σ l → σ.ws = [] → G acc l → k = l.length + 1 → acc.length + l.length ≤ 10000 → nw₁ = itL I b (fun o => o = citO b t) a Z ++ (lexL a σ ++ R) → TkS a I b t Z R T G k m₁ nw₁
  | done (σ : LexS) : TkI a I m₁ T.1 → LAt a σ [] → σ.ws = [] → T.2 = [] → k = 0 → nw₁ = itL I b (fun o => o = citE) a Z ++ (lexL a σ ++ R) → TkS a I b t Z R T G k m₁ nw₁

section
variable {C : Cx} {m : Str → Option Value} {nw : Ld} {s : Shared} {Q : Flow → Shared → Prop} {rest body : List Stmt} {p q px p1 p2 p3 : Pos} {d u : Nat} {a : LexA} {X R Z : Ld} {L I b : Addr} {t : Tok}

theorem mkS_app (x y : List Nat) : (⟨x.toArray⟩ : Str) ++ ⟨y.toArray⟩ = ⟨(x ++ y).toArray⟩ := str_ext (by simp [cpsL, Str.cps_append])
theorem tk_aug {m₁ : Str → Option Value} {nw₁ : Ld} {acc z : List Nat} {tz : Tok} (S : (CMX C 70 L).St m₁ nw₁ s) (ht : TkI a I m₁ acc) (hc : m₁ "ch" = some (.str ⟨z.toArray⟩ tz)) (hz : acc.length + z.length ≤ 100000)
    (h : ∀ t s', (CMX C 70 L).St (upd m₁ "token" (.str ⟨(acc ++ z).toArray⟩ t)) nw₁ s' → Ex (CMX C 70 L) rest Q s') : Ex (CMX C 70 L) (.AugAssign (.Name "token" px) .Add (.Name "ch" p1) p :: rest) Q s := by
  obtain ⟨t, ht⟩ := ht.tok
  refine s_augS S ht (PE.locS (t := tz) hc (by kernel_rfl) (by kernel_rfl)) (by rw [sizeLine_eq]; show acc.toArray.size + z.toArray.size ≤ _; simp; omega) (fun t s₂ S => ?_) (by kernel_rfl) (by kernel_rfl)
  rw [mkS_app] at S
  exact h t s₂ S

/-- ch = self._read_char() -/
theorem tk_esc {m₁ : Str → Option Value} {σ : LexS} {l acc : List Nat} {O : OP} (G : (CMX C 70 L).Good (d + 2) (u + 6)) (ok : LexOk C.w a) (S : (CMX C 70 L).St m₁ (itL I b O a Z ++ (lexL a σ ++ R)) s) (ht : TkI a I m₁ acc) (hat : LAt a σ l) (hws : σ.ws = [])
    (h : ∀ σ' t s', LAt a σ' l.tail → σ'.ws = [] → (CMX C 70 L).St (upd m₁ "ch" (.str ⟨(l.take 1).toArray⟩ t)) (itL I b O a Z ++ (lexL a σ' ++ R)) s' → Ex (CMX C 70 L) rest Q s')
    (hcall : McEq (CMX C 70 L) (.Name "self" p1) "_read_char" p2 [] p3) (hs : swapsWith (.Call (.Attribute (.Name "self" p1) "_read_char" p2) [] [] p3) (some (.Name "ch" px)) p.line (CMX C 70 L).env = pure false) :
    Ex (CMX C 70 L) (.Assign [.Name "ch" px] (.Call (.Attribute (.Name "self" p1) "_read_char" p2) [] [] p3) p :: rest) Q s := by
  refine s_assignM S (ME.method (x := a.x) (dx := a.dx) (c := 80) (n := a.n) (f := lexF σ.ln σ.t (.ref a.b) a.t2 a.pb) (fa := 63) (Ps := []) G (PE.loc (v := .ref a.x) ht.self (by kernel_rfl) (by kernel_rfl)) (lexIns (X := itL I b O a Z)) .nil (by kernel_rfl) (by kernel_rfl) (by kernel_rfl) (by kernel_rfl) rfl (fun s₂ vs S av => ?_) hcall)
    (F := fun v nw' => (∃ t, v = .str (chAt a.page σ.pos) t) ∧ ∃ t', nw' = itL I b O a Z ++ (lexL a (σ.adv a.page t') ++ R)) (fun v nw' s₂ hv S => ?_) (by kernel_rfl) (by kernel_rfl) hs
  · cases av
    exact fn_char G ok S
  · obtain ⟨⟨t, rfl⟩, t', rfl⟩ := hv
    rw [hat.ch] at S
    exact h _ t s₂ (hat.adv t') hws S

abbrev TkR (a : LexA) (X R : Ld) (T : List Nat × List Nat) : Value → Ld → Prop := fun v nw' => (∃ t, v = .str ⟨T.1.toArray⟩ t) ∧ ∃ σ' : LexS, σ'.ws = [] ∧ LAt a σ' T.2 ∧ nw' = X ++ (lexL a σ' ++ R)
theorem tk_end {m₁ : Str → Option Value} {σ : LexS} {O : OP} {T : List Nat × List Nat} {v : Value} (hv : vS ⟨T.1.toArray⟩ v) (S : (CMX C 70 L).St m₁ (itL I b O a ((C.env.locals, oNs m) :: X) ++ (lexL a σ ++ R)) s) (hat : LAt a σ T.2) (hws : σ.ws = []) :
    endM C (CMX C 70 L) m (TkR a X R T) (.ret v) s :=
  ⟨v, _, X ++ (lexL a σ ++ R), .inl rfl, ⟨hv, σ, hws, hat, rfl⟩, S.subl (.cons _ (.cons _ (List.Sublist.refl _)))⟩

theorem eq1 {c k : Nat} {x : Str} (hx : cpsL x = [k]) : ((one1 c).cps.toList == x.cps.toList) = decide (c = k) := by
  have e : x.cps.toList = [k] := hx
  rw [e]
  show ([c] == [k]) = _
  by_cases h : c = k
  · subst h; simp
  · simp [h]
theorem it_plain {m₁ : Str → Option Value} {nw₁ : Ld} {q : Addr} {t : Tok} (S : (CMX C 70 L).St m₁ ((I, fun o => o = citO q t) :: nw₁) s) : ∃ o, s.heap.get? I = some o ∧ plainIter o := by
  obtain ⟨o, ho, rfl⟩ := S.at (.head _)
  exact ⟨_, ho, "callable_iterator", rfl, by decide⟩
theorem s_ifJ {C : Cx} {m : Str → Option Value} {nw : Ld} {s : Shared} {e : Expr} {b : Bool} {th el : List Stmt} (J : (Str → Option Value) → Ld → Prop) (S : C.St m nw s) (he : PT C m nw e b)
    (ht : b = true → ∀ s₁, C.St m nw s₁ → Ex C th (fun fl s => fl = .next ∧ ∃ m nw, J m nw ∧ C.St m nw s) s₁) (hf : b = false → ∀ s₁, C.St m nw s₁ → Ex C el (fun fl s => fl = .next ∧ ∃ m nw, J m nw ∧ C.St m nw s) s₁)
    (h : ∀ m nw s, J m nw → C.St m nw s → Ex C rest Q s) : Ex C (.If e th el p :: rest) Q s := by
  have k : ∀ fl s, (fl = Flow.next ∧ ∃ m nw, J m nw ∧ C.St m nw s) → thenQ C rest Q fl s := by
    rintro fl s ⟨rfl, m, nw, hJ, S⟩; exact h m nw s hJ S
  exact s_if S he (fun hb s₁ S => ⟨wpAny_mono (ht hb s₁ S).run k fun _ _ z => z⟩) (fun hb s₁ S => ⟨wpAny_mono (hf hb s₁ S).run k fun _ _ z => z⟩)
theorem s_continue (h : Q .cont s) : Ex C (.Continue p :: rest) Q s := ex_cons (wpAny_Continue h)

theorem fn_token {σ : LexS} {l : List Nat} (G : C.Good (d + 3) (u + 10)) (ok : LexOk C.w a) (hat : LAt a σ l) (hws : σ.ws = []) (S : C.St m (X ++ (lexL a σ ++ R)) s) :
    codeAny (model pg C.w) C.A (.call (.ref 70) ⟨[.ref a.x], []⟩) (RetM C m (TkR a X R (lexT l))) s := by
  have hl : l.length ≤ 10000 := by
    rw [← hat.rem, List.length_drop]
    have := ok.page
    have e : (cpsL a.page).length = a.page.length := by simp [Str.length]
    omega
  refine fnCallMX (d := d + 2) (u := u + 7) G S (f := 70) (binds := [("self", .ref a.x)]) rfl rfl rfl (locs rfl) (fun L s₁ G S => ?_)
  have S : (CMX C 70 L).St _ (((C.env.locals, oNs m) :: X) ++ (lexL a σ ++ R)) s₁ := S
  refine s_if S (PT.truthL (l := a.pb) (Ps := σ.ws.map vS) (PE.lex a σ ((C.env.locals, oNs m) :: X) R G (PE.loc (v := .ref a.x) rfl) (v := .ref a.pb) rfl rfl (by kernel_rfl) (by kernel_rfl)) (lexL.sub (.tail _ (.tail _ (.head _)))) (by rw [hws]; decide)) (fun hb s₂ S => ?_) (fun hb s₂ S => s_nil ?_)
  · rw [hws] at hb; cases hb
  refine s_assignS S (PE.kS (x := ⟨#[]⟩)) (fun t₁ s₃ S => ?_)
  refine s_assign S (PX.iter (g := .ref 63) (self := .ref a.x) G (PN.bound (x := a.x) (dx := a.dx) (c := 80) (n := a.n) (f := lexF σ.ln σ.t (.ref a.b) a.t2 a.pb) (fa := 63) G (PE.loc (v := .ref a.x) rfl) (lexIns (X := (C.env.locals, oNs m) :: X)) (by kernel_rfl) (by kernel_rfl) (by kernel_rfl) (by kernel_rfl) (by kernel_rfl) (by kernel_rfl) (by decide +kernel) rfl (by kernel_rfl)) (fun b => PE.kS)) (fun v ext s₄ h S => ?_)
  obtain ⟨I, b, t, rfl, rfl⟩ := h
  have S : (CMX C 70 L).St _ (itL I b (fun o => o = citO b t) a ((C.env.locals, oNs m) :: X) ++ (lexL a σ ++ R)) s₄ := S
  refine s_forNext (I := I) (fun k m₁ nw₁ => TkS a I b t ((C.env.locals, oNs m) :: X) R (lexT l) (fun acc l' => acc = [] ∧ lexT l' = lexT l) k m₁ nw₁) (l.length + 1) S (PE.loc (v := .ref I) rfl) ⟨_, .head _, fun o e => by rw [e]⟩
    (.live σ l [] ⟨rfl, rfl, t₁, rfl⟩ hat hws ⟨rfl, rfl⟩ rfl (by simp; omega) rfl) (fun k m₁ nw₁ s₅ hI S => ?_)
  cases hI with
  | done σ' ht hat' hws' hT hk hnw =>
    subst hk hnw
    refine nx_ended G.ok.handled S (.head _) (fun s₆ S => ?_)
    obtain ⟨tt, htok⟩ := ht.tok
    refine s_ret S (PE.locS htok) (fun v ext s₇ h S => ?_)
    obtain ⟨h1, rfl⟩ := h
    exact tk_end h1 S (by rw [hT]; exact hat') hws'
  | live σ' l' acc ht hat' hws' hG hk hlen hnw =>
    obtain ⟨rfl, hG⟩ := hG
    subst hk hnw
    refine nx_lex G ok hat' S (fun c cs t' σ'' s₆ hl' hat'' hw S => ?_) (fun σ'' s₆ hl' hat'' hw S => ?_)
    · subst hl'
      rw [hws'] at hw
      refine ⟨it_plain S, as_name S (fun s₇ S => ?_)⟩
      have ht' : TkI a I (upd m₁ "ch" (.str (one1 c) t')) [] := ht.ch
      refine s_if S (PT.inS (c := c) (x := wsp) (PE.locS rfl) ((PE.lex a σ'' (itL I b (fun o => o = citO b t) a ((C.env.locals, oNs m) :: X)) R G (PE.loc (v := .ref a.x) ht'.self) (v := .str wsp a.t2) rfl rfl (by kernel_rfl) (by kernel_rfl)).imp fun v e => ⟨_, e⟩)) (fun hb s₈ S => ?_) (fun hb s₈ S => s_nil ?_)
      · have hb : c ∈ cpsL wsp := of_decide_eq_true hb
        exact s_continue ⟨cs.length + 1, _, _, by simp, .live σ'' cs [] ht' hat'' hw ⟨rfl, by rw [← hG, lexT, if_pos hb]⟩ rfl (by simp at hlen ⊢; omega) rfl, S⟩
      have hb : c ∉ cpsL wsp := of_decide_eq_false hb
      refine s_if S (PT.eqS (PE.locS rfl) PE.kS) (fun hc s₉ S => ?_) (fun hc s₉ S => ?_)
      · rw [eq1 (k := 34) (by decide +kernel)] at hc
        have hc : c = 34 := of_decide_eq_true hc
        refine s_forNext (I := I) (fun k m₁ nw₁ => TkS a I b t ((C.env.locals, oNs m) :: X) R (lexT l) (fun acc l' => quot acc l' = lexT l) k m₁ nw₁) (cs.length + 1) S (PE.loc (v := .ref I) ht'.fit) ⟨_, .head _, fun o e => by rw [e]⟩
          (.live σ'' cs [] ht' hat'' hw (by rw [← hG, lexT, if_neg hb, if_pos hc]) rfl (by simp at hlen ⊢; omega) rfl) (fun k m₂ nw₂ s₁₀ hI S => ?_)
        cases hI with
        | done σ₃ ht₃ hat₃ hws₃ hT hk hnw =>
          subst hk hnw
          exact nx_ended G.ok.handled S (.head _) (fun s₆ S => s_nil (s_nil ⟨0, _, _, by simp, .done σ₃ ht₃ hat₃ hws₃ hT rfl rfl, S⟩))
        | live σ₃ l₃ acc ht₃ hat₃ hws₃ hQ hk hlen₃ hnw =>
          subst hk hnw
          refine nx_lex G ok hat₃ S (fun c₂ cs₂ t₂ σ₄ s₆ hl' hat₄ hw₄ S => ?_) (fun σ₄ s₆ hl' hat₄ hw₄ S => ?_)
          · subst hl'
            rw [hws₃] at hw₄
            refine ⟨it_plain S, as_name S (fun s₇ S => ?_)⟩
            have ht₄ : TkI a I (upd m₂ "ch" (.str (one1 c₂) t₂)) acc := ht₃.ch
            obtain ⟨tt, htok⟩ := id ht₄.tok
            refine s_if S (PT.eqS (PE.locS rfl) PE.kS) (fun hc s₉ S => ?_) (fun hc s₉ S => ?_)
            · rw [eq1 (k := 34) (by decide +kernel)] at hc
              have hc : c₂ = 34 := of_decide_eq_true hc
              have e : lexT l = (acc, cs₂) := by rw [← hQ, quot_end hc]
              refine s_ret S (PE.locS htok) (fun v ext s₇ h S => ?_)
              obtain ⟨h1, rfl⟩ := h
              exact tk_end (by rw [e]; exact h1) S (by rw [e]; exact hat₄) hw₄
            · rw [eq1 (k := 34) (by decide +kernel)] at hc
              have hc : c₂ ≠ 34 := of_decide_eq_false hc
              refine s_if S (PT.eqS (PE.locS rfl) PE.kS) (fun he s₉ S => ?_) (fun he s₉ S => ?_)
              · rw [eq1 (k := 92) (by decide +kernel)] at he
                have he : c₂ = 92 := of_decide_eq_true he
                refine tk_esc (d := d) (u := u + 1) G ok S ht₄ hat₄ hw₄ (fun σ₅ t₅ s₁₁ hat₅ hw₅ S => s_nil (s_nil ?_)) (by kernel_rfl) (by kernel_rfl)
                refine tk_aug S ht₄.ch (z := cs₂.take 1) rfl (by simp at hlen₃ ⊢; omega) (fun t₆ s₁₂ S => s_nil ⟨cs₂.tail.length + 1, _, _, by simp; omega, .live σ₅ cs₂.tail _ ht₄.ch.token hat₅ hw₅ ?_ rfl (by simp at hlen₃ ⊢; omega) rfl, S⟩)
                rw [← hQ, quot_esc hc he]
              · rw [eq1 (k := 92) (by decide +kernel)] at he
                have he : c₂ ≠ 92 := of_decide_eq_false he
                refine s_nil (s_nil ?_)
                refine tk_aug S ht₄ (z := [c₂]) rfl (by simp at hlen₃ ⊢; omega) (fun t₆ s₁₂ S => s_nil ⟨cs₂.length + 1, _, _, by simp, .live σ₄ cs₂ _ ht₄.token hat₄ hw₄ ?_ rfl (by simp at hlen₃ ⊢; omega) rfl, S⟩)
                rw [← hQ, quot_on hc he]
          · subst hl'
            rw [hws₃] at hw₄
            have e : lexT l = (acc, []) := by rw [← hQ, quot_nil]
            exact s_nil (s_nil ⟨0, _, _, by simp, .done σ₄ (by rw [e]; exact ht₃) hat₄ hw₄ (by rw [e]) rfl rfl, S⟩)
      · rw [eq1 (k := 34) (by decide +kernel)] at hc
        have hc : c ≠ 34 := of_decide_eq_false hc
        refine s_ifJ (J := fun m₃ nw₃ => ∃ (σ₃ : LexS) (l₃ z : List Nat) (tz : Tok), TkI a I m₃ [] ∧ m₃ "ch" = some (.str ⟨z.toArray⟩ tz) ∧ LAt a σ₃ l₃ ∧ σ₃.ws = [] ∧ z.length ≤ 1 ∧ l₃.length ≤ cs.length ∧ bare z l₃ = lexT l ∧
          nw₃ = itL I b (fun o => o = citO b t) a ((C.env.locals, oNs m) :: X) ++ (lexL a σ₃ ++ R)) S (PT.eqS (PE.locS rfl) PE.kS) (fun he s₉ S => ?_) (fun he s₉ S => ?_) (fun m₃ nw₃ s₁₀ hJ S => ?_)
        · rw [eq1 (k := 92) (by decide +kernel)] at he
          have he : c = 92 := of_decide_eq_true he
          refine tk_esc (d := d) (u := u + 1) G ok S ht' hat'' hw (fun σ₅ t₅ s₁₁ hat₅ hw₅ S => s_nil ⟨rfl, _, _, ⟨σ₅, cs.tail, cs.take 1, t₅, ht'.ch, rfl, hat₅, hw₅, by simp; omega, by simp, ?_, rfl⟩, S⟩) (by kernel_rfl) (by kernel_rfl)
          rw [← hG, lexT, if_neg hb, if_neg hc, if_pos he]
        · rw [eq1 (k := 92) (by decide +kernel)] at he
          have he : c ≠ 92 := of_decide_eq_false he
          refine s_nil ⟨rfl, _, _, ⟨σ'', cs, [c], t', ht', rfl, hat'', hw, by simp, Nat.le_refl _, ?_, rfl⟩, S⟩
          rw [← hG, lexT, if_neg hb, if_neg hc, if_neg he]
        · obtain ⟨σ₃, l₃, z, tz, ht₃, hch, hat₃, hws₃, hz1, hl₃, hB, rfl⟩ := hJ
          refine tk_aug S ht₃ hch (by simp; omega) (fun t₆ s₁₂ S => ?_)
          rw [List.nil_append] at S
          simp only [List.length_cons, List.length_nil] at hlen
          refine s_forNext (I := I) (fun k m₁ nw₁ => TkS a I b t ((C.env.locals, oNs m) :: X) R (lexT l) (fun acc l' => bare acc l' = lexT l) k m₁ nw₁) (l₃.length + 1) S (PE.loc (v := .ref I) ht₃.fit) ⟨_, .head _, fun o e => by rw [e]⟩
            (.live σ₃ l₃ z ht₃.token hat₃ hws₃ hB rfl (by omega) rfl) (fun k m₂ nw₂ s₁₀ hI S => ?_)
          cases hI with
          | done σ₃ ht₃ hat₃ hws₃ hT hk hnw =>
            subst hk hnw
            exact nx_ended G.ok.handled S (.head _) (fun s₆ S => s_nil (s_nil ⟨0, _, _, by simp, .done σ₃ ht₃ hat₃ hws₃ hT rfl rfl, S⟩))
          | live σ₃ l₃ acc ht₃ hat₃ hws₃ hQ hk hlen₃ hnw =>
            subst hk hnw
            refine nx_lex G ok hat₃ S (fun c₂ cs₂ t₂ σ₄ s₆ hl' hat₄ hw₄ S => ?_) (fun σ₄ s₆ hl' hat₄ hw₄ S => ?_)
            · subst hl'
              rw [hws₃] at hw₄
              refine ⟨it_plain S, as_name S (fun s₇ S => ?_)⟩
              have ht₄ : TkI a I (upd m₂ "ch" (.str (one1 c₂) t₂)) acc := ht₃.ch
              obtain ⟨tt, htok⟩ := id ht₄.tok
              refine s_if S (PT.inS (c := c₂) (x := wsp) (PE.locS rfl) ((PE.lex a σ₄ (itL I b (fun o => o = citO b t) a ((C.env.locals, oNs m) :: X)) R G (PE.loc (v := .ref a.x) ht₄.self) (v := .str wsp a.t2) rfl rfl (by kernel_rfl) (by kernel_rfl)).imp fun v e => ⟨_, e⟩)) (fun hb s₈ S => ?_) (fun hb s₈ S => ?_)
              · have hb : c₂ ∈ cpsL wsp := of_decide_eq_true hb
                have e : lexT l = (acc, cs₂) := by rw [← hQ, bare_end hb]
                refine s_ret S (PE.locS htok) (fun v ext s₇ h S => ?_)
                obtain ⟨h1, rfl⟩ := h
                exact tk_end (by rw [e]; exact h1) S (by rw [e]; exact hat₄) hw₄
              · have hb : c₂ ∉ cpsL wsp := of_decide_eq_false hb
                refine s_if S (PT.eqS (PE.locS rfl) PE.kS) (fun he s₉ S => ?_) (fun he s₉ S => ?_)
                · rw [eq1 (k := 92) (by decide +kernel)] at he
                  have he : c₂ = 92 := of_decide_eq_true he
                  refine tk_esc (d := d) (u := u + 1) G ok S ht₄ hat₄ hw₄ (fun σ₅ t₅ s₁₁ hat₅ hw₅ S => s_nil (s_nil ?_)) (by kernel_rfl) (by kernel_rfl)
                  refine tk_aug S ht₄.ch (z := cs₂.take 1) rfl (by simp at hlen₃ ⊢; omega) (fun t₆ s₁₂ S => s_nil ⟨cs₂.tail.length + 1, _, _, by simp; omega, .live σ₅ cs₂.tail _ ht₄.ch.token hat₅ hw₅ ?_ rfl (by simp at hlen₃ ⊢; omega) rfl, S⟩)
                  rw [← hQ, bare_esc hb he]
                · rw [eq1 (k := 92) (by decide +kernel)] at he
                  have he : c₂ ≠ 92 := of_decide_eq_false he
                  refine s_nil (s_nil ?_)
                  refine tk_aug S ht₄ (z := [c₂]) rfl (by simp at hlen₃ ⊢; omega) (fun t₆ s₁₂ S => s_nil ⟨cs₂.length + 1, _, _, by simp, .live σ₄ cs₂ _ ht₄.token hat₄ hw₄ ?_ rfl (by simp at hlen₃ ⊢; omega) rfl, S⟩)
                  rw [← hQ, bare_on hb he]
            · subst hl'
              rw [hws₃] at hw₄
              have e : lexT l = (acc, []) := by rw [← hQ, bare_nil]
              exact s_nil (s_nil ⟨0, _, _, by simp, .done σ₄ (by rw [e]; exact ht₃) hat₄ hw₄ (by rw [e]) rfl rfl, S⟩)
    · subst hl'
      rw [hws'] at hw
      have e : lexT l = ([], []) := by rw [← hG, lexT]
      obtain ⟨tt, htok⟩ := ht.tok
      refine s_ret S (PE.locS htok) (fun v ext s₇ h S => ?_)
      obtain ⟨h1, rfl⟩ := h
      exact tk_end (by rw [e]; exact h1) S (by rw [e]; exact hat'') hw
end
end
end Mine

-- part L18
namespace Mine
noncomputable section
section
variable {C : Cx} {m m' : Str → Option Value} {nw nw' : Ld} {s : Shared} {Q : Flow → Shared → Prop} {rest body : List Stmt} {p q : Pos} {d u : Nat}

/-- f(..), f a def or a class of the written part -/
theorem ME.callK {x : Str} {f : Addr} {es : List Expr} {Ps : List VP} {F : Value → Ld → Prop} (G : C.Good d u) (hx : nsIn (KF C.w) mainGlobals x = some (some (.ref f))) (hk : keepIn (KF C.w) (.ref f) = true) (ha : PAs C m nw es Ps)
    (hc : ∀ s vs, C.St m nw s → AllP Ps vs → codeAny (model pg C.w) C.A (.call (.ref f) ⟨vs, []⟩) (RetM C m F) s) (hl : C.env.kindOf x = some .globalImplicit := by first | kernel_rfl | rfl) (hd : (x == ("__debug__" : Str)) = false := by decide +kernel) :
    ME C m nw (.Call (.Name x p) es [] q) F := ⟨fun s S => by
  refine wpAny_Call_NameR ((PE.glob G hx hl hd).go S fun v s₁ k S₁ z => ?_)
  have z : v = _ := z
  subst z
  refine callWith_of (P := fun h => (KF C.w).In h) (by rw [ha.plain]; rfl) (keeps_K hk) (ha.args S₁ fun vs s₂ k₂ S₂ hv => ?_)
  refine ⟨(S₂.gi G).K, wpAny_call (codeAny_mono (hc s₂ vs S₂ hv) fun r s₃ z => ?_)⟩
  obtain ⟨v, nw', rfl, f, S₃⟩ := z
  exact ⟨nw', f, S₃⟩⟩
/-- f(e), e may change the ledger -/
theorem ME.callK1 {x : Str} {f : Addr} {e : Expr} {F₁ F : Value → Ld → Prop} (G : C.Good d u) (hx : nsIn (KF C.w) mainGlobals x = some (some (.ref f))) (hk : keepIn (KF C.w) (.ref f) = true) (he : ME C m nw e F₁)
    (hc : ∀ s v nw₁, F₁ v nw₁ → C.St m nw₁ s → codeAny (model pg C.w) C.A (.call (.ref f) ⟨[v], []⟩) (RetM C m F) s) (hst : starEach [e] C.env = [(false, eval e C.env)] := by rfl) (hl : C.env.kindOf x = some .globalImplicit := by first | kernel_rfl | rfl) (hd : (x == ("__debug__" : Str)) = false := by decide +kernel) :
    ME C m nw (.Call (.Name x p) [e] [] q) F := ⟨fun s S => by
  refine wpAny_Call_NameR ((PE.glob G hx hl hd).go S fun v s₁ k S₁ z => ?_)
  have z : v = _ := z
  subst z
  rw [hst]
  refine callWith_of (P := fun h => (KF C.w).In h) rfl (keeps_K hk) (evalArgs_plain (Calls.spliced_cons (he.go S₁ fun v nw₁ s₂ f₁ S₂ => Calls.spliced_nil ?_)))
  refine ⟨(S₂.gi G).K, wpAny_call (codeAny_mono (hc s₂ v nw₁ f₁ S₂) fun r s₃ z => ?_)⟩
  obtain ⟨v, nw', rfl, f, S₃⟩ := z
  exact ⟨nw', f, S₃⟩⟩

theorem Cx.St.nest {P c' : Addr} {O O' Oc : OP} {h' : Heap} {tk : Nat} {fo : Obj} (S : C.St m nw s) (hch : Ch P O O' nw nw') (hx : Heap.ExtBut P s.heap h') (hO : ∃ o, h'.get? P = some o ∧ O' o) (hge : s.heap.objs.size ≤ c') (hlt : c' < h'.objs.size)
    (hcn : ∃ o, h'.get? c' = some o ∧ Oc o) (hfo : fo.isFreed = false) (hk : 0 < tk) : C.St m ((h'.objs.size, fun o => o = fo) :: (c', Oc) :: nw') { s with heap := h'.push fo, toks := tk } := by
  obtain ⟨_, hL, h0⟩ := S.led _ hch.mem
  have hL : P ≠ C.env.locals := hL
  have h0 : C.h₀.get? P = none := h0
  have hold : ∀ b o, b ≠ P → s.heap.get? b = some o → (h'.push fo).get? b = some o := fun b o hb e => Heap.get?_push_of_some _ (hx b o hb e)
  have hLs := S.lt
  have hab := S.above
  refine ⟨let ⟨_, _, e⟩ := S.same; ⟨_, tk, by rw [e]⟩, ⟨(S.fr.ns.extBut hx (Ne.symm hL)).push _, fun b o e => hold b o (fun q => by rw [q, h0] at e; cases e) (S.fr.keep b o e), S.fr.above⟩, fun p hp => ?_, ?_, hk⟩
  · rcases List.mem_cons.mp hp with rfl | hp
    · exact ⟨⟨fo, Heap.get?_push_size _ hfo, rfl⟩, Nat.ne_of_gt (Nat.lt_of_lt_of_le hLs (Nat.le_trans hge (Nat.le_of_lt hlt))), Heap.get?_none_of_le (Nat.le_trans hab (Nat.le_trans hge (Nat.le_of_lt hlt)))⟩
    rcases List.mem_cons.mp hp with rfl | hp
    · obtain ⟨o, e, q⟩ := hcn
      exact ⟨⟨o, Heap.get?_push_of_some _ e, q⟩, Nat.ne_of_gt (Nat.lt_of_lt_of_le hLs hge), Heap.get?_none_of_le (Nat.le_trans hab hge)⟩
    · rcases hch.of S.nd p hp with rfl | ⟨hp, hne⟩
      · obtain ⟨o, e, q⟩ := hO
        exact ⟨⟨o, Heap.get?_push_of_some _ e, q⟩, hL, h0⟩
      · obtain ⟨⟨o, e, q⟩, r⟩ := S.led p hp
        exact ⟨⟨o, hold _ _ hne e, q⟩, r⟩
  · have hlo : ∀ b ∈ nw'.map (·.1), b < s.heap.objs.size := fun b hb => by
      rw [hch.keys] at hb
      obtain ⟨p, hp, rfl⟩ := List.mem_map.mp hb
      obtain ⟨⟨o, e, _⟩, _⟩ := S.led p hp
      exact Heap.lt_size e
    rw [List.map_cons, List.map_cons, List.nodup_cons, List.nodup_cons, hch.keys]
    refine ⟨fun hm => ?_, fun hm => ?_, S.nd⟩
    · rcases List.mem_cons.mp hm with e | hm
      · exact Nat.ne_of_gt hlt e
      · have := hlo _ (by rw [hch.keys]; exact hm)
        exact Nat.lt_irrefl _ (Nat.lt_of_lt_of_le this (Nat.le_trans hge (Nat.le_of_lt hlt)))
    · have := hlo _ (by rw [hch.keys]; exact hm)
      exact Nat.lt_irrefl _ (Nat.lt_of_lt_of_le this hge)

/-- a def within a def -/
theorem s_nestDef {name qual : Str} {params : Arguments} {scope : Scope} {clos : List (Str × Addr)} {c P : Addr} {pr : Program} {loose : List Str} {mean : ExcName → Option Value} {mg mb : Str → Option Value} (G : C.Good d u) (S : C.St m nw s) (T : Top pr loose mean mg mb C.h₀) (hC : CodeHd C.h₀ c P) (hcode : C.env.code = .ref c)
    (hch : Ch P (fun o => o = tabObj #[]) (fun o => ∃ ps, o = tabObj ps) nw nw') (hcl : closureFor scope C.env = pure clos)
    (hd0 : params.defaults = []) (hk0 : params.kw_defaults = []) (ha : annTrees params none C.env = []) (hq : qualnameIn C.env name name = qual) (hk : C.env.scope.kind = .function) (hl : C.env.kindOf name = some .local)
    (h : ∀ f c' doc pm ctv s', C.St (upd m name (.ref f)) ((f, fun o => o = fnMade name qual params body scope clos doc pm c' ctv) :: (c', oCode qual) :: nw') s' → Ex C rest Q s') :
    Ex C (.FunctionDef name params body [] none [] scope none name p :: rest) Q s := by
  refine ex_cons (nestDef_K hd0 hk0 ha ?_)
  rw [hq]
  obtain ⟨⟨o, ho, rfl⟩, hL, h0⟩ := S.led _ hch.mem
  have h0 : C.h₀.get? P = none := h0
  have hgs := T.g.keeps S.fr.keep
  obtain ⟨bm, ob, b1, b2, b3, b4, b5, b6⟩ := T.bmain
  have hgP : mainGlobals ≠ P := fun q => by
    obtain ⟨o, es, ep, e, hd, _⟩ := hgs
    rw [q, ho] at e; cases e; cases hd
  have hbP : bm ≠ P := fun q => by rw [q, h0] at b3; cases b3
  have hbG : bm ≠ mainGlobals := fun q => by
    obtain ⟨o, es, ep, e, hd, _⟩ := T.g
    rw [q, e] at b3; cases b3; rw [hd] at b6; cases b6
  refine wpAny_with_toks (Nat.le_refl _) (makeFunction_K (mg := mg) hcl G.glob hgs hcode (hC.keeps S.fr.keep) ho (by first | trivial | decide +kernel) (by first | rfl | decide +kernel) hgP ⟨bm, ob, b1, b2, hbG, hbP, S.fr.keep _ _ b3, b4, b5, b6⟩ fun c' ctv doc h' tk hx hge hlt hrec htb htk => ?_)
  obtain ⟨c₂, oc, vs, t, e2, hoc, hd, hv⟩ := hrec
  cases e2
  have S₂ := S.nest (Oc := oCode qual) (tk := tk) (fo := fnMade name qual params body scope clos doc ((mg "__name__").getD .none) c' ctv) hch hx ⟨_, htb, _, rfl⟩ hge hlt ⟨oc, hoc, vs, t, hd, hv⟩ rfl (Nat.lt_of_lt_of_le S.tk htk)
  refine st_name S₂ (fun s' S' => ?_) hk hl
  exact h _ c' doc _ ctv s' S'
end
end
end Mine

-- part F17
namespace Mine
noncomputable section
section
variable {C : Cx} {m m' : Str → Option Value} {nw nw' : Ld} {s : Shared} {Q : Flow → Shared → Prop} {rest body : List Stmt} {p q : Pos} {d u : Nat} {a : LexA} {σ : LexS} {X R : Ld}

theorem fn_pop {y : Str} {r : List Str} (G : C.Good (d + 1) (u + 3)) (hws : σ.ws = y :: r) (hz : r.length ≤ 1000) (S : C.St m (X ++ (lexL a σ ++ R)) s) :
    codeAny (model pg C.w) C.A (.call (.ref 70) ⟨[.ref a.x], []⟩) (RetM C m fun v nw' => (∃ t, v = .str y t) ∧ nw' = X ++ (lexL a { σ with ws := r } ++ R)) s := by
  refine fnCallMX G S (f := 70) (binds := [("self", .ref a.x)]) rfl rfl rfl (locs rfl) (fun L s₁ G S => ?_)
  have S : (CMX C 70 L).St _ (((C.env.locals, oNs m) :: X) ++ (lexL a σ ++ R)) s₁ := S
  refine s_if S (PT.truthL (l := a.pb) (Ps := σ.ws.map vS) (PE.lex a σ ((C.env.locals, oNs m) :: X) R G (PE.loc (v := .ref a.x) rfl) (v := .ref a.pb) rfl rfl (by kernel_rfl) (by kernel_rfl)) (lexL.sub (.tail _ (.tail _ (.head _)))) (by rw [hws, List.length_map, List.length_cons]; omega)) (fun hb s₂ S => ?_) (fun hb s₂ S => ?_)
  · have hch : Ch a.pb (oL (vS y :: r.map vS)) (oL (r.map vS)) (((C.env.locals, oNs m) :: X) ++ (lexL a σ ++ R)) (((C.env.locals, oNs m) :: X) ++ (lexL a { σ with ws := r } ++ R)) := by
      refine lexL.chg (X := (C.env.locals, oNs m) :: X) ?_
      have e : oL (vS y :: r.map vS) = oL (σ.ws.map vS) := by rw [hws]; rfl
      rw [e]
      exact .tail (.tail .head)
    refine s_retM S (ME.pop0 (l := a.pb) (P := vS y) (Ps := r.map vS) (PE.lex a σ ((C.env.locals, oNs m) :: X) R G (PE.loc (v := .ref a.x) rfl) (v := .ref a.pb) rfl rfl (by kernel_rfl) (by kernel_rfl)) hch (by rw [List.length_map]; omega) (by kernel_rfl)) (fun v nw' s₃ h S => ?_)
    obtain ⟨h1, rfl⟩ := h
    exact ⟨v, _, _, .inl rfl, ⟨h1, rfl⟩, S⟩
  · rw [hws] at hb; cases hb
end

section
variable {C : Cx} {m m' : Str → Option Value} {nw nw' : Ld} {s : Shared} {Q : Flow → Shared → Prop} {rest body : List Stmt} {p q : Pos} {d u : Nat} {R : Ld}
theorem permBox {α : Type} (rd cc pl b db pb cp ct L T : α) : [rd, cc, pl, b, db, pb, cp, ct, L, T].Perm [L, b, db, rd, cc, ct, cp, pl, pb, T] := by
  classical
  rw [List.perm_iff_count]
  intro a
  simp only [List.count_cons, List.count_nil]
  ac_rfl
/-- what _law_stream makes: a box whose read hands on the page's signs -/
structure Box where
  (b db rd cc ct cp pl : Addr)
  tt : Tok
  rdO : Obj
  boxF : Str → Option Value
def boxL (x : Box) (pgt : Str) : Ld := [(x.b, fun o => o = instObj 80 x.db), (x.db, oA 5 x.boxF), (x.rd, fun o => o = x.rdO), (x.cc, oCode rdQual), (x.ct, oCell (some (.str pgt x.tt))), (x.cp, oCell (some (.ref x.pl))), (x.pl, oL [vI 0])]
structure BoxOk (w : World) (x : Box) : Prop where
  read : x.boxF "read" = some (.ref x.rd)
  rdO : ∃ doc pm ctv, x.rdO = fnMade "read" rdQual (rdP w).1 (rdP w).2.1 (rdP w).2.2 [("text", x.ct), ("place", x.cp)] doc pm x.cc ctv

theorem fn_stream {pgt : Str} {tt : Tok} {pr : Program} {loose : List Str} {mean : ExcName → Option Value} {mg mb : Str → Option Value} (G : C.Good (d + 3) (u + 11)) (T : Top pr loose mean mg mb C.h₀) (S : C.St m ((86, fun o => o = tabObj #[]) :: R) s) :
    codeAny (model pg C.w) C.A (.call (.ref 91) ⟨[.str pgt tt], []⟩) (RetM C m fun v nw' => ∃ x : Box, v = .ref x.b ∧ BoxOk C.w x ∧ nw' = boxL x pgt ++ ((86, fun o => ∃ ps, o = tabObj ps) :: R)) s := by
  refine fnCallMC (d := d + 2) (u := u + 8) G S (f := 91) (binds := [("text", .str pgt tt)]) rfl rfl rfl (fun k => kinds_of (show KindsOk _ k [("text", .str pgt tt)] from ⟨.inr ⟨rfl, rfl⟩, trivial⟩)) (by decide +kernel) (fun n => by show [n + 1, n].Nodup; simp) (fun L s₁ G S => ?_)
  have S : (CMC C 91 L).St (bindL (envAtC C.w 91 L).kindOf [("text", .str pgt tt)] fun _ => none) ((L + 2, oCell none) :: (L + 1, oCell (some (.str pgt tt))) :: (C.env.locals, oNs m) :: (86, fun o => o = tabObj #[]) :: R) s₁ := S
  refine s_assignM S (ME.callK (f := 80) (Ps := [vIs .none]) G rfl (by kernel_rfl) (.cons PE.kN .nil) (fun s₂ vs S av => ?_)) (F := fun v nw' => ∃ x dx t t2 pb, v = .ref x ∧ nw' = (x, fun o => o = instObj 80 dx) :: (dx, oA 4 (lexF 1 t .none t2 pb)) :: (pb, oL []) :: (L + 2, oCell none) :: (L + 1, oCell (some (.str pgt tt))) :: (C.env.locals, oNs m) :: (86, fun o => o = tabObj #[]) :: R) (fun v nw' s₂ hv S => ?_)
  · cases av with
    | cons e av =>
      cases av
      have e : _ = Value.none := e
      subst e
      exact call_lexer G S
  obtain ⟨b, db, t, t2, pb, rfl, rfl⟩ := hv
  refine s_assignCell (x := "place") (c := L + 2) (v₀ := none) S (PN.list (.cons PE.kI .nil) (by show 1 ≤ sizeLine; rw [sizeLine_eq]; decide)) (by kernel_rfl) (fun v ext h => ?_)
  obtain ⟨pl, rfl, rfl⟩ := h
  refine ⟨_, .tail (.tail (.tail (.tail .head))), fun s₃ S => ?_⟩
  refine s_nestDef (qual := rdQual) (clos := [("text", L + 1), ("place", L + 2)]) (c := 90) (P := 86) G S T (codeHd_of_K (c := 90) (P := 86) G.gi.K (by kernel_rfl)) (by kernel_rfl) (.tail (.tail (.tail (.tail (.tail (.tail (.tail .head))))))) (by kernel_rfl) (by kernel_rfl) (by kernel_rfl) (by kernel_rfl) (by kernel_rfl) (by kernel_rfl) (by kernel_rfl) (fun rd cc doc pm ctv s₄ S => ?_)
  obtain ⟨fo, hfo, S⟩ : ∃ fo, fo = fnMade "read" rdQual (rdP C.w).1 (rdP C.w).2.1 (rdP C.w).2.2 [("text", L + 1), ("place", L + 2)] doc pm cc ctv ∧ (CMC C 91 L).St _ ((rd, fun o => o = fo) :: _) s₄ := ⟨_, by kernel_rfl, S⟩
  refine s_setAttr (x := b) (dx := db) (c := 80) (n := 4) (f := lexF 1 t .none t2 pb) G S (PE.loc (v := .ref rd) rfl) (by decide) (by kernel_rfl) (by kernel_rfl) (by kernel_rfl) (by kernel_rfl) (fun v ext h => ?_) (by kernel_rfl)
  obtain ⟨h1, rfl⟩ := h
  have h1 : v = .ref rd := h1
  subst h1
  refine ⟨PE.loc rfl, .tail _ (.tail _ (.tail _ (.head _))), _, .tail (.tail (.tail (.tail .head))), fun s₅ S => ?_⟩
  refine s_ret S (PE.loc (v := .ref b) rfl) (fun v ext s₆ h S => ?_)
  obtain ⟨h1, rfl⟩ := h
  have h1 : v = .ref b := h1
  subst h1
  have S : (CMC C 91 L).St _ ([(rd, fun o => o = fo), (cc, oCode rdQual), (pl, oL [vI 0]), (b, fun o => o = instObj 80 db), (db, oA 5 (updA (lexF 1 t .none t2 pb) "read" (.ref rd))), (pb, oL []), (L + 2, oCell (some (.ref pl))), (L + 1, oCell (some (.str pgt tt))), (C.env.locals, oNs m), (86, fun o => ∃ ps, o = tabObj ps)] ++ R) s₆ := S
  have S₂ := S.perm ((permBox _ _ _ _ _ _ _ _ _ _).append_right R)
  exact ⟨_, _, boxL ⟨b, db, rd, cc, L + 1, L + 2, pl, tt, fo, updA (lexF 1 t .none t2 pb) "read" (.ref rd)⟩ pgt ++ ((86, fun o => ∃ ps, o = tabObj ps) :: R), .inl rfl, ⟨⟨b, db, rd, cc, L + 1, L + 2, pl, tt, fo, _⟩, rfl, ⟨rfl, doc, pm, ctv, hfo⟩, rfl⟩,
    S₂.subl (.cons_cons _ (.cons_cons _ (.cons_cons _ (.cons_cons _ (.cons_cons _ (.cons_cons _ (.cons_cons _ (.cons_cons _ (.cons _ (.cons_cons _ (List.Sublist.refl _)))))))))))⟩
end
end
end Mine

-- part P1
namespace Mine
noncomputable section

/-- a step of the tree, as the walk goes over it -/
structure Lk where
  child : Nat
  parent : Nat
  mark : Str
abbrev Wy := List (Nat × Str × Str)
def wget : Wy → Nat → Option (Str × Str)
  | [], _ => none
  | e :: r, k => if k = e.1 then some e.2 else wget r k
def bLink (here : Nat) (c d : Str) (σ : Wy × List Nat) (lk : Lk) : Wy × List Nat :=
  if lk.parent = here ∧ (wget σ.1 lk.child).isNone then ((lk.child, c, d ++ lk.mark) :: σ.1, σ.2 ++ [lk.child])
  else if lk.child = here ∧ (wget σ.1 lk.parent).isNone then ((lk.parent, c ++ lk.mark, d) :: σ.1, σ.2 ++ [lk.parent]) else σ
structure Bs where
  order : List Nat
  ways : Wy
  queue : List Nat
def bCd (b : Bs) (h : Nat) : Str × Str := (wget b.ways h).getD (⟨#[]⟩, ⟨#[]⟩)
def bStep (links : List Lk) (b : Bs) : Bs := match b.queue with
  | [] => b
  | h :: q => ⟨b.order ++ [h], (links.foldl (bLink h (bCd b h).1 (bCd b h).2) (b.ways, q)).1, (links.foldl (bLink h (bCd b h).1 (bCd b h).2) (b.ways, q)).2⟩
def bRun (links : List Lk) : Nat → Bs → Bs
  | 0, b => b
  | n + 1, b => bRun links n (bStep links b)
def bInit (start : Nat) : Bs := ⟨[], [(start, ⟨#[]⟩, ⟨#[]⟩)], [start]⟩
theorem bRun_nil {links : List Lk} {b : Bs} (h : b.queue = []) : ∀ n, bRun links n b = b
  | 0 => rfl
  | n + 1 => by
    have e : bStep links b = b := by unfold bStep; rw [h]
    rw [bRun, e]; exact bRun_nil h n

/-- the bounds that hold all along -/
structure BOk (N : Nat) (W : Wy) (q : List Nat) : Prop where
  has : ∀ k ∈ q, (wget W k).isSome = true
  len : ∀ e ∈ W, e.2.1.length ≤ N ∧ e.2.2.length ≤ N
  wid : W.length ≤ N
  que : q.length ≤ N
  rng : ∀ k ∈ q, 1 ≤ k ∧ k ≤ 15
theorem wget_mem {k : Nat} {c : Str × Str} : ∀ {W : Wy}, wget W k = some c → (k, c) ∈ W
  | [], h => nomatch h
  | e :: r, h => by
    unfold wget at h
    by_cases hk : k = e.1
    · rw [if_pos hk] at h
      have := Option.some.inj h
      obtain ⟨a, b⟩ := e
      subst hk this
      exact .head _
    · rw [if_neg hk] at h; exact .tail _ (wget_mem h)
theorem wget_cons {W : Wy} {e : Nat × Str × Str} {k : Nat} (h : (wget W k).isSome = true) : (wget (e :: W) k).isSome = true := by
  unfold wget; split <;> simp_all
theorem BOk.push {N : Nat} {W : Wy} {q : List Nat} (h : BOk N W q) {k : Nat} {c d : Str} (hc : c.length ≤ N + 2) (hd : d.length ≤ N + 2) (hk : 1 ≤ k ∧ k ≤ 15) : BOk (N + 2) ((k, c, d) :: W) (q ++ [k]) where
  has := fun x hx => by
    rcases List.mem_append.mp hx with hx | hx
    · exact wget_cons (h.has x hx)
    · rw [List.mem_singleton.mp hx]; simp [wget]
  len := fun e he => by
    rcases List.mem_cons.mp he with rfl | he
    · exact ⟨hc, hd⟩
    · have := h.len e he; omega
  wid := by have := h.wid; simp; omega
  que := by have := h.que; simp; omega
  rng := fun x hx => by
    rcases List.mem_append.mp hx with hx | hx
    · exact h.rng x hx
    · rw [List.mem_singleton.mp hx]; exact hk
theorem BOk.mono {N M : Nat} {W : Wy} {q : List Nat} (h : BOk N W q) (hM : N ≤ M) : BOk M W q :=
  ⟨h.has, fun e he => by have := h.len e he; omega, Nat.le_trans h.wid hM, Nat.le_trans h.que hM, h.rng⟩
theorem BOk.init {start : Nat} (h : 1 ≤ start ∧ start ≤ 15) : BOk 1 (bInit start).ways (bInit start).queue where
  has := fun k hk => by rw [List.mem_singleton.mp hk]; simp [bInit, wget]
  len := fun e he => by rw [List.mem_singleton.mp he]; exact ⟨Nat.zero_le _, Nat.zero_le _⟩
  wid := Nat.le_refl _
  que := Nat.le_refl _
  rng := fun k hk => by rw [List.mem_singleton.mp hk]; exact h

/-- the entries of the dict of ways, each with its tuple -/
structure WE where
  key : Nat
  t : Addr
  c : Str
  d : Str
def WE.p (e : WE) : Nat × Str × Str := (e.key, e.c, e.d)
def wf : List WE → Int → Option VP
  | [], _ => none
  | e :: r, k => if k = e.key then some (vIs (.ref e.t)) else wf r k
def wl (W : List WE) : Ld := W.map fun e => (e.t, oT [vS e.c, vS e.d])
theorem wf_none {k : Nat} : ∀ W : List WE, (wf W k).isNone = (wget (W.map WE.p) k).isNone
  | [] => rfl
  | e :: r => by
    unfold wf
    rw [List.map_cons, wget]
    by_cases h : k = e.key
    · rw [if_pos (by rw [h]), if_pos (by exact h)]; rfl
    · rw [if_neg (by omega), if_neg (by exact h)]; exact wf_none r
theorem wf_some {k : Nat} {x : Str × Str} : ∀ {W : List WE}, wget (W.map WE.p) k = some x → ∃ e ∈ W, wf W k = some (vIs (.ref e.t)) ∧ (e.c, e.d) = x
  | [], h => nomatch h
  | e :: r, h => by
    rw [List.map_cons, wget] at h
    unfold wf
    by_cases hk : k = e.key
    · rw [if_pos (by exact hk)] at h
      exact ⟨e, .head _, by rw [if_pos (by rw [hk])], Option.some.inj h⟩
    · rw [if_neg (by exact hk)] at h
      obtain ⟨e', he, h1, h2⟩ := wf_some h
      exact ⟨e', .tail _ he, by rw [if_neg (by omega)]; exact h1, h2⟩
theorem nameOf_eq {n : Nat} (h : 1 ≤ n ∧ n ≤ 15) : nameOf n = one1 (65 + n) := by
  have : ∀ n : Fin 16, 1 ≤ n.val → nameOf n.val = one1 (65 + n.val) := by
    intro n h
    have e : ap n.val = [65 + (n.val : Int)] := by
      rw [ap_pos (by omega), show n.val / 16 = 0 by omega, ap_zero, show n.val % 16 = n.val by omega]; rfl
    unfold nameOf
    rw [e]
    refine str_ext ?_
    rw [join_flatMap]
    simp [cpsL, one1]
    omega
  exact this ⟨n, by omega⟩ h.1
end
end Mine

-- part F18
namespace Mine
noncomputable section

theorem inR {pr : Addr × OP} {Y R : Ld} {a : LexA} {σ : LexS} (h : pr ∈ R) : pr ∈ Y ++ (lexL a σ ++ R) := List.mem_append_right _ (List.mem_append_right _ h)
/-- the list of the steps, and their tuples, in the part of the ledger that stays -/
structure LinksAt (R : Ld) (lk : Addr) (ts : List Addr) (kk : Nat) (ks : List Lk) : Prop where
  list : (lk, fun x => x = PySem.W.listOf (ts.map Value.ref).toArray kk) ∈ R
  len : ts.length = ks.length
  tup : ∀ (i : Nat) t k, ts[i]? = some t → ks[i]? = some k → (t, oT [vI (k.child : Int), vI (k.parent : Int), vS k.mark]) ∈ R
  rng : ∀ k ∈ ks, (1 ≤ k.child ∧ k.child ≤ 15) ∧ (1 ≤ k.parent ∧ k.parent ≤ 15) ∧ k.mark.length ≤ 2
  num : ks.length ≤ 10

section
variable {C : Cx} {m : Str → Option Value} {nw : Ld} {s : Shared} {Q : Flow → Shared → Prop} {rest body : List Stmt} {p q : Pos} {d u : Nat} {a : LexA} {σ : LexS} {X R : Ld}
theorem PT.kT {b : Bool} {k : Nat} : PT C m nw (.Constant (.bool b) k p) b := PT.mk fun s E S =>
  isTrue_plain (PE.kT.go S fun v s₁ k₁ S₁ e => by
    have e : v = .bool b := e
    subst e; exact wpAny_truthy_bool ⟨k₁, rfl⟩)
theorem c_number {e : Expr} {n : Nat} (G : C.Good (d + 1) (u + 3)) (he : PE C m nw e (vS (one1 (65 + n)))) (hst : ∀ rest, starEach (e :: rest) C.env = (false, eval e C.env) :: starEach rest C.env := by intro _; rfl)
    (hl : C.env.kindOf "_law_number" = some .globalImplicit := by first | kernel_rfl | rfl) : PE C m nw (.Call (.Name "_law_number" p) [e] [] q) (vI n) :=
  PX.callF G rfl (.cons he .nil hst) (fun s vs g S av => by
    cases av with
    | cons p av => cases av; obtain ⟨t, rfl⟩ := p; exact fn_number G.ok g S.tk n t) hl

/-- the lexer's push, as a statement -/
theorem s_push {eo e : Expr} {y : Str} {ap cp : Pos} (G : C.Good (d + 1) (u + 3)) (S : C.St m (X ++ (lexL a σ ++ R)) s) (ho : PE C m (X ++ (lexL a σ ++ R)) eo (vIs (.ref a.x))) (he : PE C m (X ++ (lexL a σ ++ R)) e (vS y)) (hz : σ.ws.length ≤ 1000)
    (h : ∀ s', C.St m (X ++ (lexL a { σ with ws := σ.ws ++ [y] } ++ R)) s' → Ex C rest Q s')
    (hcall : McEq C eo "push_token" ap [e] cp) (hst : ∀ rest, starEach (e :: rest) C.env = (false, eval e C.env) :: starEach rest C.env)
    (hi : interactive C.env = false) (hs : swapsWith (.Call (.Attribute eo "push_token" ap) [e] [] cp) none p.line C.env = pure false) :
    Ex C (.Expr (.Call (.Attribute eo "push_token" ap) [e] [] cp) p :: rest) Q s := by
  refine s_exprM S (ME.method (x := a.x) (dx := a.dx) (c := 80) (n := a.n) (f := lexF σ.ln σ.t (.ref a.b) a.t2 a.pb) (fa := 77) (Ps := [vS y]) G ho lexIns (.cons he .nil hst) (by kernel_rfl) (by kernel_rfl) (by kernel_rfl) (by kernel_rfl) rfl (fun s₂ vs S av => ?_) hcall)
    (F := fun v nw' => v = .none ∧ nw' = X ++ (lexL a { σ with ws := σ.ws ++ [y] } ++ R)) (fun v nw' s₂ hv S => ?_) hi hs
  · cases av with
    | cons e av => cases av; obtain ⟨t, rfl⟩ := e; exact fn_push G hz S
  · obtain ⟨rfl, rfl⟩ := hv
    exact ⟨rfl, h s₂ S⟩

abbrev nmL (q : List Nat) : List Str := q.map fun n => one1 (65 + n)
/-- what the walk knows between two turns -/
structure WkI (a : LexA) (lk od wd : Addr) (m₁ : Str → Option Value) : Prop where
  lexer : m₁ "lexer" = some (.ref a.x)
  links : m₁ "links" = some (.ref lk)
  order : m₁ "order" = some (.ref od)
  ways : m₁ "ways" = some (.ref wd)
/-- the walk's own part of the ledger -/
abbrev wkL (w : World) (od wd : Addr) (order : List Nat) (W : List WE) : Ld := (wd, oD (intKind pg w) W.length (wf W)) :: (od, oL (order.map fun n : Nat => vI (n : Int))) :: wl W

theorem ld_swap {m : Str → Option Value} {p1 p2 : Addr × OP} {nw : Ld} (S : C.St m (p1 :: p2 :: nw) s) : C.St m (p2 :: p1 :: nw) s := S.perm (List.Perm.swap ..)

theorem perm_rot {α : Type} (x y z : α) : [x, y, z].Perm [y, x, z] := List.Perm.swap ..
/-- the inner loop: over the steps beside the place -/
structure WkJ (a : LexA) (lk od wd : Addr) (here : Nat) (c d : Str) (m₁ : Str → Option Value) : Prop extends WkI a lk od wd m₁ where
  here : ∃ t, m₁ "here" = some (.int here t)
  climbed : ∃ t, m₁ "climbed" = some (.str c t)
  down : ∃ t, m₁ "down" = some (.str d t)

theorem perm_t3 {α : Type} (t i w o : α) : [t, i, w, o].Perm [i, w, o, t] := List.perm_append_comm (l₁ := [t]) (l₂ := [i, w, o])
theorem wk_put {xn c2 d2 : Str} {x : Nat} {tx : Tok} {order : List Nat} {W : List WE} {od wd I : Addr} {O : OP} {Z : Ld} {m₁ : Str → Option Value} {e : Expr} {L : Addr} {p1 p2 p3 p4 p5 p6 p7 p8 p9 p10 p11 : Pos} (G : (CM C 148 L).Good (d + 2) (u + 6))
    (S : (CM C 148 L).St m₁ ((I, O) :: ((wkL C.w od wd order W ++ Z) ++ (lexL a σ ++ R))) s) (hx : m₁ xn = some (.int x tx)) (hw : m₁ "ways" = some (.ref wd)) (hlx : m₁ "lexer" = some (.ref a.x)) (hr : 1 ≤ x ∧ x ≤ 15) (hz : W.length ≤ 1000) (hz2 : σ.ws.length ≤ 1000)
    (he : PN (CM C 148 L) m₁ ((I, O) :: ((wkL C.w od wd order W ++ Z) ++ (lexL a σ ++ R))) e (oT [vS c2, vS d2]))
    (h : ∀ t s', (CM C 148 L).St m₁ ((I, O) :: ((wkL C.w od wd order (⟨x, t, c2, d2⟩ :: W) ++ Z) ++ (lexL a { σ with ws := σ.ws ++ [one1 (65 + x)] } ++ R))) s' → Ex (CM C 148 L) rest Q s')
    (hkx : (CM C 148 L).env.kindOf xn = some .local) (hdx : (xn == ("__debug__" : Str)) = false) (hs1 : swapsWith e (some (.Subscript (.Name "ways" p1) (.Name xn p2) p3)) p4.line (CM C 148 L).env = pure false)
    (hcall : McEq (CM C 148 L) (.Name "lexer" p5) "push_token" p6 [.Call (.Name "_law_name" p7) [.Name xn p8] [] p9] p10)
    (hst : ∀ rest, starEach (.Call (.Name "_law_name" p7) [.Name xn p8] [] p9 :: rest) (CM C 148 L).env = (false, eval (.Call (.Name "_law_name" p7) [.Name xn p8] [] p9) (CM C 148 L).env) :: starEach rest (CM C 148 L).env)
    (hst1 : ∀ rest, starEach (.Name xn p8 :: rest) (CM C 148 L).env = (false, eval (.Name xn p8) (CM C 148 L).env) :: starEach rest (CM C 148 L).env)
    (hs2 : swapsWith (.Call (.Attribute (.Name "lexer" p5) "push_token" p6) [.Call (.Name "_law_name" p7) [.Name xn p8] [] p9] [] p10) none p11.line (CM C 148 L).env = pure false) :
    Ex (CM C 148 L) (.Assign [.Subscript (.Name "ways" p1) (.Name xn p2) p3] e p4 :: .Expr (.Call (.Attribute (.Name "lexer" p5) "push_token" p6) [.Call (.Name "_law_name" p7) [.Name xn p8] [] p9] [] p10) p11 :: rest) Q s := by
  refine s_setDN (l := wd) (n := W.length) (f := wf W) (i := (x : Int)) S he (fun t => PE.loc (v := .ref wd) hw (by kernel_rfl) (by kernel_rfl)) (fun t => PE.locI (t := tx) hx (by kernel_rfl) hkx hdx) (by rw [sizeLine_eq]; omega) (fun t => ⟨_, .tail .head, fun s₂ S => ?_⟩) hs1
  have S : (CM C 148 L).St m₁ (((I, O) :: (wkL C.w od wd order (⟨x, t, c2, d2⟩ :: W) ++ Z)) ++ (lexL a σ ++ R)) s₂ := S.perm ((perm_t3 _ _ _ _).append_right _)
  refine s_push (y := one1 (65 + x)) (d := d + 1) (u := u + 3) G S (PE.loc (v := .ref a.x) hlx (by kernel_rfl) (by kernel_rfl)) ((c_name (d := d) (u := u) G (PE.locI (t := tx) hx (by kernel_rfl) hkx hdx) (by omega) (by omega) hst1 (by kernel_rfl)).imp fun v e => by rw [Int.toNat_natCast, nameOf_eq hr] at e; exact e) hz2 (fun s₄ S => h t s₄ S) hcall hst (by kernel_rfl) hs2

theorem fn_walk {l : List Nat} {lk : Addr} {ts : List Addr} {kk : Nat} {ks : List Lk} {start n : Nat} {t : Tok} (G : C.Good (d + 5) (u + 16)) (ok : LexOk C.w a) (hat : LAt a σ l) (hl : lexT l = ([], [])) (hws : σ.ws = []) (hlk : LinksAt R lk ts kk ks)
    (hst : 1 ≤ start ∧ start ≤ 15) (hn : n ≤ 10) (hq : (bRun ks n (bInit start)).queue = []) (S : C.St m (X ++ (lexL a σ ++ R)) s) :
    codeAny (model pg C.w) C.A (.call (.ref 148) ⟨[.ref a.x, .int start t, .ref lk], []⟩) (RetM C m fun v nw' => ∃ (r od wd : Addr) (W : List WE) (σ' : LexS), v = .ref r ∧ W.map WE.p = (bRun ks n (bInit start)).ways ∧ σ'.ws = [] ∧ LAt a σ' [] ∧ (wd == sysModules) = false ∧
      nw' = (r, oT [vIs (.ref od), vIs (.ref wd)]) :: (wkL C.w od wd (bRun ks n (bInit start)).order W ++ (X ++ (lexL a σ' ++ R)))) s := by
  refine fnCallM (d := d + 4) (u := u + 13) G S (f := 148) (binds := [("lexer", .ref a.x), ("start", .int start t), ("links", .ref lk)]) rfl rfl rfl (locs rfl) (fun L s₁ G S => ?_)
  refine s_assignN S (PN.list .nil (by decide)) (fun od s₂ S => ?_)
  refine s_assign S (PX.dictI1 G (PE.locI (t := t) rfl) (PN.tup (.cons (PE.kS (x := ⟨#[]⟩)) (.cons (PE.kS (x := ⟨#[]⟩)) .nil)) (by show 2 ≤ sizeLine; rw [sizeLine_eq]; decide))) (fun v ext s₃ h S => ?_)
  obtain ⟨wd, wt, rfl, rfl, hwd⟩ := h
  have S : (CM C 148 L).St _ ((wkL C.w od wd [] [⟨start, wt, ⟨#[]⟩, ⟨#[]⟩⟩] ++ ((C.env.locals, oNs m) :: X)) ++ (lexL a σ ++ R)) s₃ := S.perm (List.perm_append_comm (l₁ := [_, _]) (l₂ := [_]) |>.trans (perm_rot _ _ _) |>.append_right _)
  refine s_push (y := one1 (65 + start)) (σ := σ) (X := wkL C.w od wd [] [⟨start, wt, ⟨#[]⟩, ⟨#[]⟩⟩] ++ ((C.env.locals, oNs m) :: X)) G S (PE.loc (v := .ref a.x) rfl) ((c_name (d := d + 2) (u := u + 7) G (PE.locI (t := t) rfl) (by omega) (by omega)).imp fun v e => by rw [Int.toNat_natCast, nameOf_eq hst] at e; exact e) (by rw [hws]; decide) (fun s₄ S => ?_) (by kernel_rfl) (by intro _; rfl) (by kernel_rfl) (by kernel_rfl)
  rw [hws, List.nil_append] at S
  refine s_while (fun k m₁ nw₁ => ∃ (bs : Bs) (W : List WE) (σ₁ : LexS) (N : Nat), WkI a lk od wd m₁ ∧ W.map WE.p = bs.ways ∧ bRun ks k bs = bRun ks n (bInit start) ∧ σ₁.ws = nmL bs.queue ∧ LAt a σ₁ l ∧ BOk N bs.ways bs.queue ∧ N + 20 * k ≤ 201 ∧ bs.order.length + k ≤ 10 ∧
      nw₁ = (wkL C.w od wd bs.order W ++ ((C.env.locals, oNs m) :: X)) ++ (lexL a σ₁ ++ R)) n S ⟨bInit start, [⟨start, wt, ⟨#[]⟩, ⟨#[]⟩⟩], { σ with ws := [one1 (65 + start)] }, 1, ⟨rfl, rfl, rfl, rfl⟩, rfl, rfl, rfl, ⟨hat.rem, hat.ln⟩, BOk.init hst, by omega, by show 0 + n ≤ 10; omega, rfl⟩ ?_
  rintro k m₁ nw₁ s₅ ⟨bs, W, σ₁, N, hI, hW, hrun, hws₁, hat₁, hB, hN, hord, rfl⟩ S
  refine ⟨_, PT.kT, fun _ s₆ S => ?_, fun hb => by cases hb⟩
  cases hqq : bs.queue with
  | nil =>
    have hfin : bs = bRun ks n (bInit start) := by rw [← hrun, bRun_nil hqq]
    rw [hqq] at hws₁
    refine s_assignM S (ME.method (x := a.x) (dx := a.dx) (c := 80) (n := a.n) (f := lexF σ₁.ln σ₁.t (.ref a.b) a.t2 a.pb) (fa := 70) (Ps := []) G (PE.loc (v := .ref a.x) hI.lexer) lexIns .nil (by kernel_rfl) (by kernel_rfl) (by kernel_rfl) (by kernel_rfl) rfl (fun s₂ vs S av => ?_) (by kernel_rfl))
      (F := TkR a (wkL C.w od wd bs.order W ++ ((C.env.locals, oNs m) :: X)) R (lexT l)) (fun v nw' s₇ hv S => ?_)
    · cases av
      exact fn_token (d := d + 1) (u := u + 3) G ok hat₁ hws₁ S
    · obtain ⟨⟨tv, rfl⟩, σ₂, hws₂, hat₂, rfl⟩ := hv
      rw [hl] at S hat₂
      refine s_if S (PT.eqS (x := ⟨#[]⟩) (y := ⟨#[]⟩) (PE.locS (t := tv) rfl) PE.kS) (fun hb s₈ S => ?_) (fun hb s₈ S => by cases hb)
      refine s_ret S (PN.tup (.cons (PE.loc (v := .ref od) hI.order) (.cons (PE.loc (v := .ref wd) hI.ways) .nil)) (by show 2 ≤ sizeLine; rw [sizeLine_eq]; decide)) (fun v ext s₉ h S => ?_)
      obtain ⟨r, rfl, rfl⟩ := h
      refine ⟨_, _, (r, oT [vIs (.ref od), vIs (.ref wd)]) :: (wkL C.w od wd bs.order W ++ (X ++ (lexL a σ₂ ++ R))), .inl rfl, ⟨r, od, wd, W, σ₂, rfl, by rw [← hfin]; exact hW, hws₂, hat₂, hwd, by rw [← hfin]⟩, S.perm ?_⟩
      rw [List.append_assoc]
      exact List.perm_middle (l₁ := (r, oT [vIs (.ref od), vIs (.ref wd)]) :: wkL C.w od wd bs.order W)
  | cons h q =>
    obtain ⟨k, rfl⟩ : ∃ k', k = k' + 1 := by
      cases k with
      | zero => rw [← hrun] at hq; exact absurd (hq.symm.trans hqq) (by simp)
      | succ k => exact ⟨k, rfl⟩
    rw [hqq] at hws₁ hB
    obtain ⟨cd, hcd⟩ := Option.isSome_iff_exists.mp (hB.has h (.head _))
    obtain ⟨c, d'⟩ := cd
    have hbcd : bCd bs h = (c, d') := by unfold bCd; rw [hcd]; rfl
    have hlen : c.length ≤ N ∧ d'.length ≤ N := hB.len _ (wget_mem hcd)
    have hh := hB.rng h (.head _)
    refine s_assignM S (ME.method (x := a.x) (dx := a.dx) (c := 80) (n := a.n) (f := lexF σ₁.ln σ₁.t (.ref a.b) a.t2 a.pb) (fa := 70) (Ps := []) G (PE.loc (v := .ref a.x) hI.lexer) lexIns .nil (by kernel_rfl) (by kernel_rfl) (by kernel_rfl) (by kernel_rfl) rfl (fun s₂ vs S av => ?_) (by kernel_rfl))
      (F := fun v nw' => (∃ t, v = .str (one1 (65 + h)) t) ∧ nw' = (wkL C.w od wd bs.order W ++ ((C.env.locals, oNs m) :: X)) ++ (lexL a { σ₁ with ws := nmL q } ++ R)) (fun v nw' s₇ hv S => ?_)
    · cases av
      exact fn_pop G hws₁ (by have := hB.que; simp at this ⊢; omega) S
    obtain ⟨⟨tv, rfl⟩, rfl⟩ := hv
    refine s_if S (PT.eqS (PE.locS (t := tv) rfl) (PE.kS (x := ⟨#[]⟩))) (fun hb s₈ S => ?_) (fun hb s₈ S => s_nil ?_)
    · exact absurd hb (by show ¬ (([65 + h] : List Nat) == []) = true; simp)
    refine s_assignI S (c_number (d := d + 3) (u := u + 10) G (PE.locS (t := tv) rfl)) (fun th s₉ S => ?_)
    refine s_append (a := od) (Ps := bs.order.map fun n : Nat => vI (n : Int)) S (PE.loc (v := .ref od) hI.order) (.tail _ (.head _)) (by rw [List.length_map, sizeLine_eq]; omega) (PE.locI (t := th) rfl) (fun v ext s₁₀ hv S => ?_)
    obtain ⟨hv, rfl⟩ := hv
    refine ⟨vI h, (wkL C.w od wd (bs.order ++ [h]) W ++ ((C.env.locals, oNs m) :: X)) ++ (lexL a { σ₁ with ws := nmL q } ++ R), hv, ?_, fun s₁₁ S => ?_⟩
    · have e : ((bs.order.map fun n : Nat => vI (n : Int)) ++ [vI (h : Int)]) = (bs.order ++ [h]).map fun n : Nat => vI (n : Int) := by rw [List.map_append]; rfl
      rw [e]; exact .tail .head
    obtain ⟨e, he, hwf, hep⟩ := wf_some (W := W) (k := h) (x := (c, d')) (by rw [hW]; exact hcd)
    have hep1 : e.c = c := congrArg Prod.fst hep
    have hep2 : e.d = d' := congrArg Prod.snd hep
    have hmem : (e.t, oT [vS c, vS d']) ∈ (wkL C.w od wd (bs.order ++ [h]) W ++ ((C.env.locals, oNs m) :: X)) ++ (lexL a { σ₁ with ws := nmL q } ++ R) :=
      .tail _ (.tail _ (List.mem_append_left _ (List.mem_append_left _ (by rw [← hep1, ← hep2]; exact List.mem_map_of_mem (f := fun e : WE => (e.t, oT [vS e.c, vS e.d])) he))))
    refine s_tuple S (PE.idxD (C := CM C 148 L) (knd := intKind pg C.w) (n := W.length) (f := wf W) (k := (h : Int)) (PE.loc (v := .ref wd) (by exact hI.ways)) (.inr (.head _)) (PE.locI (t := th) rfl) (fun v e => by obtain ⟨t, rfl⟩ := e; exact intKind_is _ _ _ _) hwf (fun v e => by obtain ⟨t, rfl⟩ := e; with_unfolding_all rfl)) (fun v ext s₁₂ hv S => ?_)
    obtain ⟨hv, rfl⟩ := hv
    have hv : v = .ref e.t := hv
    subst hv
    refine as_tupO ["climbed", "down"] S G.ok.handled (.inr hmem) (.cons (.cons .nil)) rfl (by kernel_rfl) (by kernel_rfl) (fun vs s₁₃ av S => ?_)
    cases av with
    | cons p1 av => cases av with
      | cons p2 av =>
        cases av
        obtain ⟨t1, rfl⟩ := p1
        obtain ⟨t2, rfl⟩ := p2
        refine s_for (fixed := [(lk, fun x => x = PySem.W.listOf (ts.map Value.ref).toArray kk)]) (fun i m₂ nw₂ => ∃ (W₂ : List WE) (qq : List Nat) (σ₂ : LexS) (N₂ : Nat), WkJ a lk od wd h c d' m₂ ∧ (W₂.map WE.p, qq) = (ks.take i).foldl (bLink h c d') (bs.ways, q) ∧ σ₂.ws = nmL qq ∧ LAt a σ₂ l ∧
            BOk N₂ (W₂.map WE.p) qq ∧ N ≤ N₂ ∧ N₂ ≤ N + 2 * i ∧ nw₂ = (wkL C.w od wd (bs.order ++ [h]) W₂ ++ ((C.env.locals, oNs m) :: X)) ++ (lexL a σ₂ ++ R)) S
          (PSrc.list (vs := ts.map Value.ref) (k := kk) G.ok.handled (PE.loc (v := .ref lk) (by exact hI.links)) (.inr (inR hlk.list)) (fun _ => .head _))
          ⟨W, q, { σ₁ with ws := nmL q }, N, ⟨⟨hI.lexer, hI.links, hI.order, hI.ways⟩, ⟨th, rfl⟩, ⟨t1, rfl⟩, ⟨t2, rfl⟩⟩, by rw [hW]; rfl, rfl, ⟨hat₁.rem, hat₁.ln⟩, ⟨fun k hk => by rw [hW]; exact hB.has k (.tail _ hk), by rw [hW]; exact hB.len, by rw [hW]; exact hB.wid, by have := hB.que; simp at this; omega, fun k hk => hB.rng k (.tail _ hk)⟩, Nat.le_refl _, by omega, rfl⟩
          (fun i m₂ nw₂ hI x hx => by obtain ⟨W₂, qq, σ₂, N₂, _, _, _, _, _, _, _, rfl⟩ := hI; rw [List.mem_singleton.mp hx]; exact inR hlk.list)
          (fun i v I oI m₂ nw₂ s₁₄ hi hv hI S => ?_) (fun m₂ nw₂ s₁₄ hI S => ?_)
        · obtain ⟨W₂, qq, σ₂, N₂, hJ, hfold, hws₂, hat₂, hB₂, hN1, hN2, rfl⟩ := hI
          rw [List.length_map, hlk.len] at hi
          have hki := List.getElem?_eq_getElem hi
          generalize ks[i] = k₀ at hki
          have htake : ks.take (i + 1) = ks.take i ++ [k₀] := by rw [List.take_add_one, hki]; rfl
          rw [List.getElem?_map] at hv
          cases htt : ts[i]? with
          | none => rw [htt] at hv; cases hv
          | some tt =>
          rw [htt] at hv
          have hv : v = .ref tt := (Option.some.inj hv).symm
          subst hv
          obtain ⟨⟨hc1, hc2⟩, ⟨hp1, hp2⟩, hmk⟩ := hlk.rng k₀ (List.mem_of_getElem? hki)
          have hn10 := hlk.num
          refine as_tupO ["child", "parent", "mark"] S G.ok.handled (.inr (.tail _ (inR (hlk.tup i tt k₀ htt hki)))) (.cons (.cons (.cons .nil))) rfl (by kernel_rfl) (by kernel_rfl) (fun vs s₁₅ av S => ?_)
          cases av with
          | cons p1 av => cases av with
            | cons p2 av => cases av with
              | cons p3 av =>
                cases av
                obtain ⟨t3, rfl⟩ := p1
                obtain ⟨t4, rfl⟩ := p2
                obtain ⟨t5, rfl⟩ := p3
                obtain ⟨th₂, hth⟩ := hJ.here
                obtain ⟨tc₂, htc⟩ := hJ.climbed
                obtain ⟨td₂, htd⟩ := hJ.down
                have hnone : ∀ x : Nat, (wf W₂ (x : Int)).isNone = (wget (W₂.map WE.p) x).isNone := fun x => wf_none W₂
                have hfold' : (W₂.map WE.p, qq) = List.foldl (bLink h c d') (bs.ways, q) (ks.take i) := hfold
                have hW1 : W₂.map WE.p = (List.foldl (bLink h c d') (bs.ways, q) (ks.take i)).1 := congrArg Prod.fst hfold'
                have hq1 : qq = (List.foldl (bLink h c d') (bs.ways, q) (ks.take i)).2 := congrArg Prod.snd hfold'
                have hwid := hB₂.wid
                rw [List.length_map] at hwid
                have hque := hB₂.que
                refine s_if S (PT.and2 (PT.eqI (PE.locI (i := (k₀.parent : Int)) (t := t4) rfl) (PE.locI (i := (h : Int)) (t := th₂) (by exact hth))) (fun _ => PT.notInD (C := CM C 148 L) (knd := intKind pg C.w) (f := wf W₂) (n := W₂.length) (k := (k₀.child : Int)) (PE.locI (i := (k₀.child : Int)) (t := t3) rfl) (fun v e => by obtain ⟨t, rfl⟩ := e; exact intKind_is _ _ _ _) (PE.loc (v := .ref wd) (by exact hJ.ways)) (.inr (.tail _ (.head _))) hwd)) (fun hb s₁₆ S => ?_) (fun hb s₁₆ S => ?_)
                · obtain ⟨hb1, hb2⟩ := Bool.and_eq_true_iff.mp hb
                  have hb1 : k₀.parent = h := by have := eq_of_beq hb1; omega
                  rw [hnone] at hb2
                  refine wk_put (d := d + 2) (u := u + 7) (x := k₀.child) (tx := t3) (c2 := c) (d2 := d' ++ k₀.mark) (σ := σ₂) (W := W₂) G S rfl (by exact hJ.ways) (by exact hJ.lexer) ⟨hc1, hc2⟩ (by omega) (by rw [hws₂, List.length_map]; omega)
                    (PN.tup (.cons (PE.locS (t := tc₂) (by exact htc)) (.cons (PE.cat (PE.locS (t := td₂) (by exact htd)) (PE.locS (t := t5) rfl) (by rw [sizeLine_eq]; omega)) .nil)) (by show 2 ≤ sizeLine; rw [sizeLine_eq]; decide)) (fun t s₁₇ S => s_nil (s_nil ?_))
                    (by kernel_rfl) (by decide +kernel) (by kernel_rfl) (by kernel_rfl) (by intro _; rfl) (by intro _; rfl) (by kernel_rfl)
                  have e : bLink h c d' (W₂.map WE.p, qq) k₀ = ((⟨k₀.child, t, c, d' ++ k₀.mark⟩ :: W₂ : List WE).map WE.p, qq ++ [k₀.child]) := by unfold bLink; rw [if_pos ⟨hb1, hb2⟩]; rfl
                  refine ⟨_, _, S, ⟨k₀.child, t, c, d' ++ k₀.mark⟩ :: W₂, qq ++ [k₀.child], { σ₂ with ws := σ₂.ws ++ [one1 (65 + k₀.child)] }, N₂ + 2, ⟨⟨hJ.lexer, hJ.links, hJ.order, hJ.ways⟩, hJ.here, hJ.climbed, hJ.down⟩, ?_, ?_, ⟨hat₂.rem, hat₂.ln⟩, hB₂.push (k := k₀.child) (c := c) (d := d' ++ k₀.mark) (by omega) (by rw [len_cat]; omega) ⟨hc1, hc2⟩, by omega, by omega, rfl⟩
                  · rw [htake, List.foldl_append, ← hfold']; exact e.symm
                  · show σ₂.ws ++ _ = nmL (qq ++ [k₀.child]); rw [hws₂, nmL, nmL, List.map_append]; rfl
                · have hb1 : ¬ (k₀.parent = h ∧ (wget (W₂.map WE.p) k₀.child).isNone = true) := fun ⟨e1, e2⟩ => by
                    rw [← hnone] at e2
                    rw [e2, e1] at hb; simp at hb
                  refine s_if S (PT.and2 (PT.eqI (PE.locI (i := (k₀.child : Int)) (t := t3) rfl) (PE.locI (i := (h : Int)) (t := th₂) (by exact hth))) (fun _ => PT.notInD (C := CM C 148 L) (knd := intKind pg C.w) (f := wf W₂) (n := W₂.length) (k := (k₀.parent : Int)) (PE.locI (i := (k₀.parent : Int)) (t := t4) rfl) (fun v e => by obtain ⟨t, rfl⟩ := e; exact intKind_is _ _ _ _) (PE.loc (v := .ref wd) (by exact hJ.ways)) (.inr (.tail _ (.head _))) hwd)) (fun hb s₁₆ S => ?_) (fun hb s₁₆ S => ?_)
                  · obtain ⟨hb2, hb3⟩ := Bool.and_eq_true_iff.mp hb
                    have hb2 : k₀.child = h := by have := eq_of_beq hb2; omega
                    rw [hnone] at hb3
                    refine wk_put (d := d + 2) (u := u + 7) (x := k₀.parent) (tx := t4) (c2 := c ++ k₀.mark) (d2 := d') (σ := σ₂) (W := W₂) G S rfl (by exact hJ.ways) (by exact hJ.lexer) ⟨hp1, hp2⟩ (by omega) (by rw [hws₂, List.length_map]; omega)
                      (PN.tup (.cons (PE.cat (PE.locS (t := tc₂) (by exact htc)) (PE.locS (t := t5) rfl) (by rw [sizeLine_eq]; omega)) (.cons (PE.locS (t := td₂) (by exact htd)) .nil)) (by show 2 ≤ sizeLine; rw [sizeLine_eq]; decide)) (fun t s₁₇ S => s_nil (s_nil (s_nil ?_)))
                      (by kernel_rfl) (by decide +kernel) (by kernel_rfl) (by kernel_rfl) (by intro _; rfl) (by intro _; rfl) (by kernel_rfl)
                    have e : bLink h c d' (W₂.map WE.p, qq) k₀ = ((⟨k₀.parent, t, c ++ k₀.mark, d'⟩ :: W₂ : List WE).map WE.p, qq ++ [k₀.parent]) := by unfold bLink; rw [if_neg hb1, if_pos ⟨hb2, hb3⟩]; rfl
                    refine ⟨_, _, S, ⟨k₀.parent, t, c ++ k₀.mark, d'⟩ :: W₂, qq ++ [k₀.parent], { σ₂ with ws := σ₂.ws ++ [one1 (65 + k₀.parent)] }, N₂ + 2, ⟨⟨hJ.lexer, hJ.links, hJ.order, hJ.ways⟩, hJ.here, hJ.climbed, hJ.down⟩, ?_, ?_, ⟨hat₂.rem, hat₂.ln⟩, hB₂.push (k := k₀.parent) (c := c ++ k₀.mark) (d := d') (by rw [len_cat]; omega) (by omega) ⟨hp1, hp2⟩, by omega, by omega, rfl⟩
                    · rw [htake, List.foldl_append, ← hfold']; exact e.symm
                    · show σ₂.ws ++ _ = nmL (qq ++ [k₀.parent]); rw [hws₂, nmL, nmL, List.map_append]; rfl
                  · have hb2 : ¬ (k₀.child = h ∧ (wget (W₂.map WE.p) k₀.parent).isNone = true) := fun ⟨e1, e2⟩ => by
                      rw [← hnone] at e2
                      rw [e2, e1] at hb; simp at hb
                    have e : bLink h c d' (W₂.map WE.p, qq) k₀ = (W₂.map WE.p, qq) := by unfold bLink; rw [if_neg hb1, if_neg hb2]
                    refine s_nil (s_nil (s_nil ⟨_, _, S, W₂, qq, σ₂, N₂, ⟨⟨hJ.lexer, hJ.links, hJ.order, hJ.ways⟩, hJ.here, hJ.climbed, hJ.down⟩, ?_, hws₂, hat₂, hB₂, hN1, by omega, rfl⟩))
                    rw [htake, List.foldl_append, ← hfold']; exact e.symm
        · obtain ⟨W₂, qq, σ₂, N₂, hJ, hfold, hws₂, hat₂, hB₂, hN1, hN2, rfl⟩ := hI
          rw [List.length_map, hlk.len, List.take_of_length_le (Nat.le_refl _)] at hfold
          have hn10 := hlk.num
          rw [List.length_map, hlk.len] at hN2
          have hbs : bStep ks bs = ⟨bs.order ++ [h], W₂.map WE.p, qq⟩ := by
            unfold bStep; rw [hqq]; dsimp only; rw [hbcd]; dsimp only; rw [← hfold]
          exact s_nil ⟨k, _, _, Nat.lt_succ_self _, ⟨bStep ks bs, W₂, σ₂, N₂, ⟨hJ.lexer, hJ.links, hJ.order, hJ.ways⟩, by rw [hbs], hrun, by rw [hbs]; exact hws₂, hat₂, by rw [hbs]; exact hB₂, by omega, by rw [hbs]; simp; omega, by rw [hbs]⟩, S⟩
end
end
end Mine

-- part L19
namespace Mine
noncomputable section
section
variable {C : Cx} {m : Str → Option Value} {nw nw' : Ld} {s : Shared} {Q : Flow → Shared → Prop} {rest body : List Stmt} {p q : Pos} {d u : Nat}

theorem sorted_unique {a b : List Int} (h : a.Perm b) (ha : a.Pairwise (· ≤ ·)) (hb : b.Pairwise (· ≤ ·)) : a = b :=
  List.Perm.eq_of_pairwise (fun x y _ _ h1 h2 => Int.le_antisymm h1 h2) ha hb h

/-- sorted(xs), of numbers -/
theorem PN.sorted {e : Expr} {l : Addr} {la lb : List Int} (G : C.Good d u) (he : PE C m nw e (vIs (.ref l))) {O : OP} (hl : (l, O) ∈ nw) (hO : ∀ o, O o → oL (la.map vI) o) (hp : la.Perm lb) (hs : lb.Pairwise (· ≤ ·)) (hz : la.length < 64)
    (hx : nsIn (KF C.w) mainGlobals "sorted" = some none := by rfl) (hst : ∀ rest, starEach (e :: rest) C.env = (false, eval e C.env) :: starEach rest C.env := by intro _; rfl) (hk : C.env.kindOf "sorted" = some .globalImplicit := by first | kernel_rfl | rfl) :
    PN C m nw (.Call (.Name "sorted" p) [e] [] q) (oL (lb.map vI)) :=
  PX.callB G hx (id := "sorted") (by decide +kernel) (.cons he .nil hst) (fun s vs S av => TX.new fun E Q h => by
    cases av with
    | cons e av =>
      cases av
      have e : _ = Value.ref l := e
      subst e
      obtain ⟨o, ho, hoO⟩ := S.at hl
      obtain ⟨vs, k, rfl, av⟩ := hO o hoO
      refine sorted_ints (isList_of ho) (intsAre_of av) (by rw [av.length, List.length_map]; exact hz) fun out ns' h1 h2 h3 => ?_
      obtain ⟨e, he⟩ := sortedAll_at s.heap vs out
      have e2 : ns' = lb := sorted_unique (h2.trans hp) h3 hs
      subst e2
      refine h _ _ _ s.toks (Nat.le_succ _) (fun b o e => sortedAll_old e) he ⟨out.toList, e, by simp [seqObj, W.listOf], ?_⟩
      clear he h h2 h3 hp hs
      generalize out.toList = os at h1
      induction h1 with
      | nil => exact .nil
      | cons x t _ ih => exact .cons ⟨t, rfl⟩ ih) (by decide +kernel) hk

/-- a list of numbers, here or made -/
def lsF (nw : Ld) (la : List Int) : FP := fun v ext => ∃ x, v = .ref x ∧ ∃ O : OP, (x, O) ∈ ext ++ nw ∧ ∀ o, O o → oL (la.map vI) o
theorem PE.ls {e : Expr} {l : Addr} {la : List Int} {O : OP} (he : PE C m nw e (vIs (.ref l))) (hl : (l, O) ∈ nw) (hO : ∀ o, O o → oL (la.map vI) o) : PX C m nw e (lsF nw la) :=
  PX.mono he fun v ext h => ⟨l, h.1, O, by rw [h.2]; exact hl, hO⟩
theorem PN.ls {e : Expr} {la : List Int} (he : PN C m nw e (oL (la.map vI))) : PX C m nw e (lsF nw la) :=
  PX.mono he fun v ext h => by obtain ⟨x, rfl, rfl⟩ := h; exact ⟨x, rfl, _, .head _, fun o h => h⟩
theorem PT.neL {a b : Expr} {la lb : List Int} (G : C.Good d u) (ha : PX C m nw a (lsF nw la)) (hb : PX C m nw b (lsF nw lb)) (hm : behindInMarks .NotEq b = false := by with_unfolding_all rfl) : PT C m nw (.Compare a [.NotEq] [b] p) (!decide (la = lb)) := by
  refine PT.mk fun s E S => ?_
  refine wpAny_isTrue_Compare1 ?_ hm
  refine ha.go S fun v s₁ ext k₁ S₁ S₁' f fr => hb.go S₁ fun v' s₂ ext₂ k₂ S₂ S₂' f₂ fr₂ => ?_
  obtain ⟨x, rfl, O, hx, hO⟩ := f
  obtain ⟨y, rfl, O₂, hy, hO₂⟩ := f₂
  obtain ⟨o, ho, q₁⟩ := S₁'.at hx
  obtain ⟨vs, k, rfl, av⟩ := hO o q₁
  obtain ⟨o, ho₂, q₂⟩ := S₂'.at hy
  obtain ⟨us, k', rfl, au⟩ := hO₂ o q₂
  refine ne_intsK (isList_of (keeps_get k₂ ho)) (intsAre_of av) (isList_of ho₂) (intsAre_of au) (by have := G.ok.units; show C.A.units + 64 < 9900; omega) ?_
  exact wpAny_truthy_bool ⟨keeps_tr k₁ (keeps_tr k₂ (keeps_tok _ _)), rfl⟩

/-- list(range(..)) -/
theorem PN.listRange {e : Expr} {lo hi : Int} {n : Nat} (G : C.Good d u) (he : ∀ s E, C.St m nw s → wpAny (model pg C.w) C.A (eval e C.env) (fun v s' => Keeps s s' ∧ ∃ r t u v', v = .ref r ∧ IsRange s'.heap r lo hi 1 t u v') E s)
    (hsm : Builtin.Range.small lo hi 1 = true) (hn : Builtin.Range.rangeSize lo hi 1 = n) (hz : n ≤ 2 ^ 24)
    (hst : starEach [e] C.env = [(false, eval e C.env)] := by rfl) (hx : nsIn (KF C.w) mainGlobals "list" = some none := by rfl) (hk : C.env.kindOf "list" = some .globalImplicit := by first | kernel_rfl | rfl) :
    PN C m nw (.Call (.Name "list" p) [e] [] q) (oL ((List.range n).map fun i : Nat => vI (lo + i))) := PX.mk fun s E S => by
  refine wpAny_Call_NameR ((PE.bglob G hx (v := .type "list") (by decide +kernel) (by decide +kernel) hk).go S fun v s₁ k₁ S₁ z => ?_)
  have z : v = _ := z
  subst z
  rw [hst]
  refine PyProof.Rows.callWith_type rfl (Calls.evalArgs_plain (Calls.spliced_cons (wpAny_mono (wpAny_toks (he s₁ E S₁)) (fun v s₂ h => Calls.spliced_nil ?_) fun _ _ z => z.2)))
  obtain ⟨htk, k₂, r, t, u', v', rfl, hr⟩ := h
  refine call_list_range (n := n) G.ok.handled hr hsm hn hz fun h' tk acc' c' hk' hg hI => ?_
  refine ⟨keeps_tr k₁ (keeps_tr k₂ ⟨h', tk, rfl, hk'⟩), _, ⟨s₂.heap.objs.size, rfl, rfl⟩, fun p hp => ?_, by simp⟩
  rw [List.mem_singleton.mp hp]
  refine ⟨none_of (keepsH (keeps_tr k₁ k₂)) (Heap.get?_none_of_le (Nat.le_refl _)), _, hg, acc'.toList, c', by simp [W.listOf], ?_⟩
  refine AllP.of_map (by rw [Array.length_toList, hI.1, List.length_range]) fun i j v e e' => ?_
  obtain ⟨t, ht⟩ := hI.2 i v (by simpa using e')
  have hj : j = i := by
    have hi : i < n := by
      have := (List.getElem?_eq_some_iff.mp e).1
      simpa using this
    rw [List.getElem?_range hi] at e; exact (Option.some.inj e).symm
  subst hj
  exact ⟨t, by rw [ht, Int.mul_one]⟩
theorem c_cdata {e : Expr} {x : Str} (G : C.Good (d + 1) (u + 3)) (he : PE C m nw e (vS x)) (hx : x.length ≤ 30) (hst : ∀ rest, starEach (e :: rest) C.env = (false, eval e C.env) :: starEach rest C.env := by intro _; rfl)
    (hl : C.env.kindOf "_escape_cdata_c14n" = some .globalImplicit := by first | kernel_rfl | rfl) : PE C m nw (.Call (.Name "_escape_cdata_c14n" p) [e] [] q) (vS (asText x)) :=
  PX.callF G rfl (.cons he .nil hst) (fun s vs g S av => by
    cases av with
    | cons p av => cases av; obtain ⟨t, rfl⟩ := p; exact fn_cdata G.ok g S.tk x hx t) hl
theorem c_attrib {e : Expr} {x : Str} (G : C.Good (d + 1) (u + 3)) (he : PE C m nw e (vS x)) (hx : x.length ≤ 30) (hst : ∀ rest, starEach (e :: rest) C.env = (false, eval e C.env) :: starEach rest C.env := by intro _; rfl)
    (hl : C.env.kindOf "_escape_attrib_c14n" = some .globalImplicit := by first | kernel_rfl | rfl) : PE C m nw (.Call (.Name "_escape_attrib_c14n" p) [e] [] q) (vS (asValue x)) :=
  PX.callF G rfl (.cons he .nil hst) (fun s vs g S av => by
    cases av with
    | cons p av => cases av; obtain ⟨t, rfl⟩ := p; exact fn_attrib G.ok g S.tk x hx t) hl
end
end
end Mine

-- part F19
namespace Mine
noncomputable section

/-- what the table asks of the walks -/
structure WalksOk (n : Nat) (par : Nat → Nat) (ks : List Lk) (ws0 : Str) (M : Nat → Nat → Int) : Prop where
  queue : ∀ i, i < n → (bRun ks 10 (bInit (i + 1))).queue = []
  perm : ∀ i, i < n → (bRun ks 10 (bInit (i + 1))).order.Perm ((List.range n).map (· + 1))
  hops : ∀ i, i < n → ((bRun ks 10 (bInit (i + 1))).order.map fun g => ((hopsN par (i + 1 + g) (i + 1) g : Nat) : Int)).Pairwise (· ≤ ·)
  way : ∀ i j, i < n → j < n → ∃ c d, wget (bRun ks 10 (bInit (i + 1))).ways (j + 1) = some (c, d) ∧ c.length ≤ 20 ∧ d.length ≤ 20 ∧ ((asText (ws0 ++ c) ++ asValue d).length : Int) = M i j

/-- the words as they were drawn: the head's mark, and three for each step -/
structure WordsOk (ws : List Str) (ws0 : Str) (ks : List Lk) : Prop where
  len : ws.length = 3 * ks.length + 1
  head : ws[0]? = some ws0
  child : ∀ (i : Nat) k, ks[i]? = some k → ws[1 + 3 * i]? = some (one1 (65 + k.child))
  parent : ∀ (i : Nat) k, ks[i]? = some k → ws[1 + 3 * i + 1]? = some (one1 (65 + k.parent))
  mark : ∀ (i : Nat) k, ks[i]? = some k → ws[1 + 3 * i + 2]? = some k.mark
  rng : ∀ k ∈ ks, (1 ≤ k.child ∧ k.child ≤ 15) ∧ (1 ≤ k.parent ∧ k.parent ≤ 15) ∧ k.mark.length ≤ 2
  num : ks.length ≤ 6
  h2 : ws0.length ≤ 2

def lkL (ts : List Addr) (ks : List Lk) : Ld := (ts.zip ks).map fun q => (q.1, oT [vI (q.2.child : Int), vI (q.2.parent : Int), vS q.2.mark])
theorem lkL_snoc {ts : List Addr} {ks : List Lk} {t : Addr} {k : Lk} (h : ts.length = ks.length) : lkL (ts ++ [t]) (ks ++ [k]) = lkL ts ks ++ [(t, oT [vI (k.child : Int), vI (k.parent : Int), vS k.mark])] := by
  unfold lkL; rw [List.zip_append h, List.map_append]; rfl
theorem lkL_at {ts : List Addr} {ks : List Lk} {i : Nat} {t : Addr} {k : Lk} (h1 : ts[i]? = some t) (h2 : ks[i]? = some k) : (t, oT [vI (k.child : Int), vI (k.parent : Int), vS k.mark]) ∈ lkL ts ks := by
  refine List.mem_map.mpr ⟨(t, k), ?_, rfl⟩
  exact List.mem_of_getElem? (i := i) (by rw [List.getElem?_zip_eq_some]; exact ⟨h1, h2⟩)

theorem pm1 {α : Type} (t : α) (Y A B : List α) : (t :: (Y ++ (A ++ B))).Perm (Y ++ ((A ++ [t]) ++ B)) := by
  classical
  rw [List.perm_iff_count]; intro x
  simp only [List.count_cons, List.count_append, List.count_nil]
  omega
theorem pm2 {α : Type} (tb pl lk c3 c2 c1 Lc : α) (T X lx R : List α) : (tb :: pl :: lk :: (T ++ (c3 :: c2 :: c1 :: Lc :: (X ++ (lx ++ R))))).Perm ((c3 :: tb :: ([] : List α)) ++ (lx ++ (pl :: lk :: (T ++ (c2 :: c1 :: Lc :: (X ++ R)))))) := by
  classical
  rw [List.perm_iff_count]; intro x
  simp only [List.count_cons, List.count_append, List.count_nil]
  omega
theorem pm3 {α : Type} (tb pl lk c3 c2 c1 Lc : α) (rs T X lx R : List α) : ((c3 :: tb :: rs) ++ (lx ++ (pl :: lk :: (T ++ (c2 :: c1 :: Lc :: (X ++ R)))))).Perm ((c3 :: c2 :: c1 :: pl :: lk :: T) ++ (Lc :: tb :: (rs ++ (X ++ (lx ++ R))))) := by
  classical
  rw [List.perm_iff_count]; intro x
  simp only [List.count_cons, List.count_append, List.count_nil]
  omega
theorem pm4 {α : Type} (row D r wd od I c3 tb : α) (wl rs Y : List α) : (row :: D :: r :: wd :: od :: (wl ++ (I :: c3 :: tb :: (rs ++ Y)))).Perm ((D :: r :: wd :: od :: wl) ++ (I :: c3 :: tb :: ((rs ++ [row]) ++ Y))) := by
  classical
  rw [List.perm_iff_count]; intro x
  simp only [List.count_cons, List.count_append, List.count_nil]
  omega
def rwL (n : Nat) (M : Nat → Nat → Int) (rs : List Addr) : Ld := rs.zipIdx.map fun q => (q.1, rowO n (M q.2))
theorem rwL_snoc {n : Nat} {M : Nat → Nat → Int} {rs : List Addr} {r : Addr} : rwL n M (rs ++ [r]) = rwL n M rs ++ [(r, rowO n (M rs.length))] := by
  unfold rwL; rw [List.zipIdx_append, List.map_append]; simp
theorem rwL_eq {n : Nat} {M : Nat → Nat → Int} {rs : List Addr} (h : rs.length = n) : rwL n M rs = rowLd n (fun i => rs.getD i 0) M := by
  unfold rwL rowLd
  apply List.ext_getElem?
  intro i
  rw [List.getElem?_map, List.getElem?_map, List.getElem?_zipIdx]
  by_cases hi : i < n
  · rw [List.getElem?_range hi, List.getElem?_eq_getElem (by omega)]
    simp [List.getD_eq_getElem?_getD, List.getElem?_eq_getElem (show i < rs.length by omega)]
  · rw [List.getElem?_eq_none (by omega : rs.length ≤ i), List.getElem?_eq_none (by simp; omega)]; rfl
theorem refs_range {n : Nat} {rs : List Addr} (h : rs.length = n) : rs.map (fun r => vIs (.ref r)) = (List.range n).map fun i => vIs (.ref (rs.getD i 0)) := by
  apply List.ext_getElem?
  intro i
  rw [List.getElem?_map, List.getElem?_map]
  by_cases hi : i < n
  · rw [List.getElem?_range hi, List.getElem?_eq_getElem (by omega)]
    simp [List.getD_eq_getElem?_getD, List.getElem?_eq_getElem (show i < rs.length by omega)]
  · rw [List.getElem?_eq_none (by omega : rs.length ≤ i), List.getElem?_eq_none (by simp; omega)]; rfl
theorem range13 {k : Nat} (h : k ≤ 6) : Builtin.Range.small 1 ((3 * k + 1 : Nat) : Int) 3 = true ∧ Builtin.Range.rangeSize 1 ((3 * k + 1 : Nat) : Int) 3 = k := by
  have : ∀ k : Fin 7, Builtin.Range.small 1 ((3 * k.val + 1 : Nat) : Int) 3 = true ∧ Builtin.Range.rangeSize 1 ((3 * k.val + 1 : Nat) : Int) 3 = k.val := by decide +kernel
  exact this ⟨k, by omega⟩

structure TbM (a : LexA) (lk pl tb : Addr) (m : Str → Option Value) : Prop where
  lexer : m "lexer" = some (.ref a.x)
  links : m "links" = some (.ref lk)
  places : m "places" = some (.ref pl)
  table : m "table" = some (.ref tb)
theorem asText_len (x : Str) : (asText x).length ≤ x.length * 6 := by unfold asText; rw [len_join]; exact mapped_sum (by decide +kernel)
theorem asValue_len (x : Str) : (asValue x).length ≤ x.length * 6 := by unfold asValue; rw [len_join]; exact mapped_sum (by decide +kernel)
theorem range_sorted (n : Nat) : ((List.range n).map fun i : Nat => ((i + 1 : Nat) : Int)).Pairwise (· ≤ ·) := by
  rw [List.pairwise_map]
  exact List.pairwise_lt_range.imp fun h => by omega
structure RowM (a : LexA) (lk pl tb wd row : Addr) (m : Str → Option Value) : Prop extends TbM a lk pl tb m where
  ways : m "ways" = some (.ref wd)
  row : m "row" = some (.ref row)
section
variable {C : Cx} {m : Str → Option Value} {nw : Ld} {s : Shared} {Q : Flow → Shared → Prop} {rest body : List Stmt} {p q : Pos} {d u : Nat} {a : LexA} {σ : LexS} {X R : Ld}

theorem fn_table {l : List Nat} {rw P : Addr} {n N : Nat} {par : Nat → Nat} {f : Int → Option VP} {ks : List Lk} {ws : List Str} {ws0 : Str} {M : Nat → Nat → Int} (G : C.Good (d + 8) (u + 22)) (ok : LexOk C.w a) (hat : LAt a σ l) (hl : lexT l = ([], [])) (hws : σ.ws = [])
    (hks : WordsOk ws ws0 ks) (hn : n = ks.length + 1) (hP : (P, oD (intKind pg C.w) N f) ∈ R) (hf : ∀ k : Nat, 2 ≤ k → k ≤ n → f k = some (vI (par k))) (hpar : ∀ k, 2 ≤ k → k ≤ n → 1 ≤ par k ∧ par k < k) (hrw : (rw, oL (ws.map vS)) ∈ R)
    (hW : WalksOk n par ks ws0 M) (S : C.St m (X ++ (lexL a σ ++ R)) s) :
    codeAny (model pg C.w) C.A (.call (.ref 160) ⟨[.ref a.x, .ref rw, .ref P], []⟩) (RetM C m fun v nw' => ∃ (tb : Addr) (tr : Nat → Addr) (σ' : LexS), v = .ref tb ∧ σ'.ws = [] ∧ LAt a σ' [] ∧
      nw' = (tb, oL ((List.range n).map fun i => vIs (.ref (tr i)))) :: (rowLd n tr M ++ (X ++ (lexL a σ' ++ R)))) s := by
  refine fnCallMC (d := d + 7) (u := u + 19) G S (f := 160) (binds := [("lexer", .ref a.x), ("words", .ref rw), ("parents", .ref P)]) rfl rfl rfl
    (fun k => kinds_of (show KindsOk _ k [("lexer", .ref a.x), ("words", .ref rw), ("parents", .ref P)] from ⟨.inl rfl, .inr ⟨rfl, rfl⟩, .inr ⟨rfl, rfl⟩, trivial⟩)) (by decide +kernel) (fun n => by show [n + 2, n + 1, n].Nodup; simp) (fun L s₁ G S => ?_)
  have S : (CMC C 160 L).St (bindL (envAtC C.w 160 L).kindOf [("lexer", .ref a.x), ("words", .ref rw), ("parents", .ref P)] fun _ => none) ((L + 3, oCell none) :: (L + 2, oCell (some (.ref P))) :: (L + 1, oCell (some (.ref rw))) :: (C.env.locals, oNs m) :: (X ++ (lexL a σ ++ R))) s₁ := S
  have hn6 := hks.num
  have hwl := hks.len
  -- the steps
  refine s_assignCompM (fixed := []) (cl := [("words", L + 1)]) (n := ks.length) (P := fun i v => ∃ t, v = .int (1 + (i : Nat) * 3) t) (fun i nw₁ Ps => ∃ ts : List Addr, ts.length = i ∧ Ps = ts.map (fun t => vIs (.ref t)) ∧ nw₁ = lkL ts (ks.take i) ++ ((L + 3, oCell none) :: (L + 2, oCell (some (.ref P))) :: (L + 1, oCell (some (.ref rw))) :: (C.env.locals, oNs m) :: (X ++ (lexL a σ ++ R)))) S
    (PSrc.rangeOf G.ok.handled (lo := 1) (hi := ws.length) (st := 3) ?_ ?_ (range3 G rfl (by decide +kernel) PE.kI (PE.lenL (Ps := ws.map vS) G rfl (by decide +kernel) (PE.cell (c := L + 1) (.tail _ (.tail _ (.head _))) (by kernel_rfl)) (.inr (.tail _ (.tail _ (.tail _ (.tail _ (inR hrw)))))) (by rw [List.length_map]; omega) |>.imp fun v e => by rw [List.length_map] at e; exact e) PE.kI (by decide) (by decide)))
    (by rw [sizeLine_eq]; omega) (by kernel_rfl) ⟨[], rfl, rfl, rfl⟩ (fun _ _ _ _ x hx => nomatch hx) (fun i v L' Y m' nw₁ Ps hi hv hI hm => ?_) (fun lk nw₁ Ps s₂ hI S => ?_)
  · rw [hwl]; exact (range13 hn6).1
  · rw [hwl]; exact (range13 hn6).2
  · obtain ⟨ts, hts, rfl, rfl⟩ := hI
    obtain ⟨tv, rfl⟩ := hv
    have hki := List.getElem?_eq_getElem hi
    generalize ks[i] = k₀ at hki
    have e1 : ((1 : Int) + (i : Nat) * 3).toNat = 1 + 3 * i := by omega
    have e2 : ((1 : Int) + (i : Nat) * 3 + 1).toNat = 1 + 3 * i + 1 := by omega
    have e3 : ((1 : Int) + (i : Nat) * 3 + 2).toNat = 1 + 3 * i + 2 := by omega
    have hc1 : (L + 1, oCell (some (.ref rw))) ∈ Y ++ (lkL ts (ks.take i) ++ ((L + 3, oCell none) :: (L + 2, oCell (some (.ref P))) :: (L + 1, oCell (some (.ref rw))) :: (C.env.locals, oNs m) :: (X ++ (lexL a σ ++ R)))) :=
      List.mem_append_right _ (List.mem_append_right _ (.tail _ (.tail _ (.head _))))
    have hc2 : (rw, oL (ws.map vS)) ∈ Y ++ (lkL ts (ks.take i) ++ ((L + 3, oCell none) :: (L + 2, oCell (some (.ref P))) :: (L + 1, oCell (some (.ref rw))) :: (C.env.locals, oNs m) :: (X ++ (lexL a σ ++ R)))) :=
      List.mem_append_right _ (List.mem_append_right _ (.tail _ (.tail _ (.tail _ (.tail _ (inR hrw))))))
    have G' := Cx.comp_good (scope := { kind := .function, names := [], isGenerator := false, isCoroutine := false }) (cl := []) (L := L') (s₀ := (CMC C 160 L).s₀) G rfl
    refine ME.permX (PX.me (PN.tup (.cons (c_number (d := d + 6) (u := u + 16) (n := k₀.child) (Cx.comp_good G rfl) (PE.idxL (Ps := ws.map vS) (PE.cell (c := L + 1) hc1 (by kernel_rfl)) (.inr hc2) (PE.locI (t := tv) hm) (by omega) (by omega) ?_)) (.cons (c_number (d := d + 6) (u := u + 16) (n := k₀.parent) (Cx.comp_good G rfl) (PE.idxL (Ps := ws.map vS) (PE.cell (c := L + 1) hc1 (by kernel_rfl)) (.inr hc2) (PE.add (PE.locI (t := tv) hm) PE.kI) (by omega) (by omega) ?_))
      (.cons (PE.idxL (Ps := ws.map vS) (P := vS k₀.mark) (PE.cell (c := L + 1) hc1 (by kernel_rfl)) (.inr hc2) (PE.add (PE.locI (t := tv) hm) PE.kI) (by omega) (by omega) ?_) .nil))) (by show 3 ≤ sizeLine; rw [sizeLine_eq]; decide)) (F' := fun v nw' => ∃ t, v = .ref t ∧ nw' = (t, oT [vI (k₀.child : Int), vI (k₀.parent : Int), vS k₀.mark]) :: (Y ++ (lkL ts (ks.take i) ++ ((L + 3, oCell none) :: (L + 2, oCell (some (.ref P))) :: (L + 1, oCell (some (.ref rw))) :: (C.env.locals, oNs m) :: (X ++ (lexL a σ ++ R)))))) (fun v ext h => ?_)) (fun v nw' h => ?_)
    · rw [e1, List.getElem?_map, hks.child i k₀ hki]; rfl
    · rw [e2, List.getElem?_map, hks.parent i k₀ hki]; rfl
    · rw [e3, List.getElem?_map, hks.mark i k₀ hki]; rfl
    · obtain ⟨t, rfl, rfl⟩ := h
      exact ⟨t, rfl, rfl⟩
    · obtain ⟨t, rfl, rfl⟩ := h
      refine ⟨_, pm1 _ _ _ _, vIs (.ref t), _, rfl, rfl, ts ++ [t], by simp [hts], by simp, ?_⟩
      have e : ks.take (i + 1) = ks.take i ++ [k₀] := by rw [List.take_add_one, hki]; rfl
      rw [e, lkL_snoc (by rw [hts, List.length_take]; omega)]
  · obtain ⟨ts, hts, rfl, rfl⟩ := hI
    rw [List.take_of_length_le (Nat.le_refl _)] at S
    have hn1 : ((List.map (fun t => vIs (Value.ref t)) ts).length : Int) = ((n - 1 : Nat) : Int) := by rw [List.length_map, hts, hn]; rfl
    have hn7 : n ≤ 7 := by omega
    have hrs := range_small (lo := 1) (hi := n + 1) (by decide) (by omega)
    have hpe : (fun i : Nat => vI ((1 : Int) + i)) = fun i : Nat => vI ((i + 1 : Nat) : Int) := by funext i; rw [show (1 : Int) + i = ((i + 1 : Nat) : Int) by omega]
    refine s_assignN S (PN.listRange (lo := 1) (hi := ((n + 1 : Nat) : Int)) (n := n) G (range2 G rfl (by decide +kernel) PE.kI (PE.add (PE.lenL (Ps := ts.map fun t => vIs (.ref t)) G rfl (by decide +kernel) (PE.loc (v := .ref lk) rfl) (.inr (.head _)) (by rw [List.length_map]; omega)) PE.kI |>.imp fun v e => by rw [hn1] at e; rw [show ((n + 1 : Nat) : Int) = ((n - 1 : Nat) : Int) + 2 by omega]; exact e)) (by exact hrs.1) (by exact hrs.2.trans (by rw [Nat.add_sub_cancel])) (by omega)) (fun pl s₃ S => ?_)
    rw [hpe] at S
    obtain ⟨o, ho, vsl, kk, rfl, avl⟩ := S.at (.tail _ (.head _))
    have hvsl := refs_eq avl
    subst hvsl
    have S := S.pin (O' := fun x => x = PySem.W.listOf (ts.map Value.ref).toArray kk) (.tail .head) (fun o e _ => Option.some.inj (e.symm.trans ho))
    obtain ⟨o, hop, vsp, kp, rfl, avp⟩ := S.at (.head _)
    have S := S.pin (O' := fun x => x = PySem.W.listOf vsp.toArray kp) .head (fun o e _ => Option.some.inj (e.symm.trans hop))
    have hvl : vsp.length = n := by rw [avp.length, List.length_map, List.length_range]
    have avp' : AllP ((((List.range n).map fun i : Nat => ((i + 1 : Nat) : Int))).map vI) vsp := by rw [List.map_map]; exact avp
    clear ho hop
    refine s_assignN S (PN.list .nil (by decide)) (fun tb s₄ S => ?_)
    have S := S.perm (pm2 _ _ _ _ _ _ _ _ _ _ _)
    obtain ⟨R₂, hR₂⟩ : ∃ R₂ : Ld, R₂ = (pl, fun x => x = PySem.W.listOf vsp.toArray kp) :: (lk, fun x => x = PySem.W.listOf (ts.map Value.ref).toArray kk) :: (lkL ts ks ++ ((L + 2, oCell (some (.ref P))) :: (L + 1, oCell (some (.ref rw))) :: (C.env.locals, oNs m) :: (X ++ R))) := ⟨_, rfl⟩
    rw [← hR₂] at S
    have hplR : (pl, fun x => x = PySem.W.listOf vsp.toArray kp) ∈ R₂ := by rw [hR₂]; exact .head _
    have hc2R : (L + 2, oCell (some (.ref P))) ∈ R₂ := by rw [hR₂]; exact .tail _ (.tail _ (List.mem_append_right _ (.head _)))
    have hc1R : (L + 1, oCell (some (.ref rw))) ∈ R₂ := by rw [hR₂]; exact .tail _ (.tail _ (List.mem_append_right _ (.tail _ (.head _))))
    have hrwR : (rw, oL (ws.map vS)) ∈ R₂ := by rw [hR₂]; exact .tail _ (.tail _ (List.mem_append_right _ (.tail _ (.tail _ (.tail _ (List.mem_append_right _ hrw))))))
    have hPR : (P, oD (intKind pg C.w) N f) ∈ R₂ := by rw [hR₂]; exact .tail _ (.tail _ (List.mem_append_right _ (.tail _ (.tail _ (.tail _ (List.mem_append_right _ hP))))))
    have hlkR : LinksAt R₂ lk ts kk ks := ⟨by rw [hR₂]; exact .tail _ (.head _), hts, fun i t k e e' => by rw [hR₂]; exact .tail _ (.tail _ (List.mem_append_left _ (lkL_at e e'))), hks.rng, by omega⟩
    have hpin : ∀ o, o = PySem.W.listOf vsp.toArray kp → oL ((((List.range n).map fun i : Nat => ((i + 1 : Nat) : Int))).map vI) o := fun o e => ⟨vsp, kp, e, avp'⟩
    refine s_for (fixed := [(pl, fun x => x = PySem.W.listOf vsp.toArray kp)]) (fun i m₁ nw₁ => ∃ (rs : List Addr) (σ₁ : LexS) (l₁ : List Nat) (sv : Option Value), rs.length = i ∧ σ₁.ws = [] ∧ LAt a σ₁ l₁ ∧ lexT l₁ = ([], []) ∧ (i ≠ 0 → l₁ = []) ∧ TbM a lk pl tb m₁ ∧
        nw₁ = ((L + 3, oCell sv) :: (tb, oL (rs.map fun r => vIs (.ref r))) :: rwL n M rs) ++ (lexL a σ₁ ++ R₂)) S
      (PSrc.list (vs := vsp) (k := kp) G.ok.handled (PE.loc (v := .ref pl) rfl) (.inr (List.mem_append_right _ (List.mem_append_right _ hplR))) (fun _ => .head _))
      ⟨[], σ, l, none, rfl, hws, hat, hl, fun h => absurd rfl h, ⟨rfl, rfl, rfl, rfl⟩, rfl⟩
      (fun i m₁ nw₁ hI x hx => by obtain ⟨rs, σ₁, l₁, sv, _, _, _, _, _, _, rfl⟩ := hI; rw [List.mem_singleton.mp hx]; exact List.mem_append_right _ (List.mem_append_right _ hplR))
      (fun i v I oI m₁ nw₁ s₅ hi hv hI S => ?_) (fun m₁ nw₁ s₅ hI S => ?_)
    · obtain ⟨rs, σ₁, l₁, sv, hrs', hws₁, hat₁, hl₁, hl0, hM, rfl⟩ := hI
      rw [hvl] at hi
      obtain ⟨P', hP', pv⟩ := avp.get' hv
      rw [List.getElem?_map, List.getElem?_range hi] at hP'
      have hP' := Option.some.inj hP'
      subst hP'
      obtain ⟨ti, rfl⟩ := pv
      refine as_cell (c := L + 3) (v₀ := sv) S (.tail .head) (by kernel_rfl) (fun s₆ S => ?_) (by kernel_rfl) (by kernel_rfl)
      have S : (CMC C 160 L).St m₁ (((I, fun x => x = oI) :: (L + 3, oCell (some (.int ((i + 1 : Nat) : Int) ti))) :: (tb, oL (rs.map fun r => vIs (.ref r))) :: rwL n M rs) ++ (lexL a σ₁ ++ R₂)) s₆ := S
      obtain ⟨b, hb⟩ : ∃ b, b = bRun ks 10 (bInit (i + 1)) := ⟨_, rfl⟩
      refine s_tupleM S (ME.callF (f := 148) (Ps := [vIs (.ref a.x), vI ((i + 1 : Nat) : Int), vIs (.ref lk)]) G rfl (.cons (PE.loc (v := .ref a.x) hM.lexer) (.cons ((PE.cell (c := L + 3) (.tail _ (.head _)) (by kernel_rfl)).imp fun v e => ⟨ti, e⟩) (.cons (PE.loc (v := .ref lk) hM.links) .nil))) (fun s₇ vs S av => ?_))
        (F := fun v nw' => ∃ (r od wd : Addr) (W : List WE) (σ' : LexS), v = .ref r ∧ W.map WE.p = b.ways ∧ σ'.ws = [] ∧ LAt a σ' [] ∧ (wd == sysModules) = false ∧
          nw' = (r, oT [vIs (.ref od), vIs (.ref wd)]) :: (wkL C.w od wd b.order W ++ (((I, fun x => x = oI) :: (L + 3, oCell (some (.int ((i + 1 : Nat) : Int) ti))) :: (tb, oL (rs.map fun r => vIs (.ref r))) :: rwL n M rs) ++ (lexL a σ' ++ R₂)))) (fun v nw' s₇ hF S => ?_)
      · cases av with
        | cons p1 av => cases av with
          | cons p2 av => cases av with
            | cons p3 av =>
              cases av
              have p1 : _ = Value.ref a.x := p1
              have p3 : _ = Value.ref lk := p3
              subst p1 p3
              obtain ⟨t, rfl⟩ := p2
              rw [hb]
              exact fn_walk (d := d + 2) (u := u + 3) G ok hat₁ hl₁ hws₁ hlkR (by omega) (Nat.le_refl _) (hW.queue i hi) S
      obtain ⟨r, od, wd, W, σ₂, rfl, hWp, hws₂, hat₂, hwd, rfl⟩ := hF
      refine as_tupO ["order", "ways"] S G.ok.handled (.inr (.head _)) (.cons (.cons .nil)) rfl (by kernel_rfl) (by kernel_rfl) (fun vs s₈ av S => ?_)
      cases av with
      | cons p1 av => cases av with
        | cons p2 av =>
          cases av
          have p1 : _ = Value.ref od := p1
          have p2 : _ = Value.ref wd := p2
          subst p1 p2
          have hperm : b.order.Perm ((List.range n).map (· + 1)) := by rw [hb]; exact hW.perm i hi
          have hlen : b.order.length = n := by rw [hperm.length_eq]; simp
          have hmem : ∀ g ∈ b.order, 1 ≤ g ∧ g ≤ n := fun g hg => by
            have := hperm.mem_iff.mp hg
            obtain ⟨j, hj, rfl⟩ := List.mem_map.mp this
            have := List.mem_range.mp hj
            omega
          obtain ⟨o, ho, vso, ko, rfl, avo⟩ := S.at (.tail _ (.tail _ (.head _)))
          have S := S.pin (O' := fun x => x = PySem.W.listOf vso.toArray ko) (.tail (.tail .head)) (fun o e _ => Option.some.inj (e.symm.trans ho))
          clear ho
          have hvo : vso.length = b.order.length := by rw [avo.length, List.length_map]
          have avo' : AllP ((b.order.map fun g : Nat => (g : Int)).map vI) vso := by rw [List.map_map]; exact avo
          obtain ⟨Y, hY⟩ : ∃ Y : Ld, Y = wl W ++ (((I, fun x => x = oI) :: (L + 3, oCell (some (.int ((i + 1 : Nat) : Int) ti))) :: (tb, oL (rs.map fun r => vIs (.ref r))) :: rwL n M rs) ++ (lexL a σ₂ ++ R₂)) := ⟨_, rfl⟩
          have hYR : ∀ pr ∈ R₂, pr ∈ Y := fun pr h => by rw [hY]; exact List.mem_append_right _ (List.mem_append_right _ (List.mem_append_right _ h))
          have S : (CMC C 160 L).St (updL m₁ ["order", "ways"] [.ref od, .ref wd]) ((r, oT [vIs (.ref od), vIs (.ref wd)]) :: (wd, oD (intKind pg C.w) W.length (wf W)) :: (od, fun x => x = PySem.W.listOf vso.toArray ko) :: Y) s₈ := by rw [hY]; exact S
          have hc3Y : (L + 3, oCell (some (.int ((i + 1 : Nat) : Int) ti))) ∈ Y := by rw [hY]; exact List.mem_append_right _ (.tail _ (.head _))
          have hWY : ∀ e ∈ W, (e.t, oT [vS e.c, vS e.d]) ∈ Y := fun e he => by rw [hY]; exact List.mem_append_left _ (List.mem_map_of_mem (f := fun e : WE => (e.t, oT [vS e.c, vS e.d])) he)
          refine s_assignComp (items := b.order) (R := fun (g : Nat) v => vI (g : Int) v) (f := fun g => vI ((hopsN par (i + 1 + g) (i + 1) g : Nat) : Int)) (fixed := [(od, fun x => x = PySem.W.listOf vso.toArray ko)]) (cl := [("start", L + 3), ("parents", L + 2)]) S
            (PSrc.list (vs := vso) (k := ko) G.ok.handled (PE.loc (v := .ref od) rfl) (.inr (.tail _ (.tail _ (.head _)))) (fun _ => .head _)) hvo (by rw [sizeLine_eq]; omega) (by rintro x y v ⟨t, rfl⟩ ⟨t', e⟩; injection e with e; omega)
            (fun j v hj => by
              obtain ⟨P'', hP'', pv⟩ := avo.get' hj
              rw [List.getElem?_map] at hP''
              cases q : b.order[j]? with
              | none => rw [q] at hP''; cases hP''
              | some g => rw [q] at hP''; cases hP''; exact ⟨g, rfl, pv⟩) (by kernel_rfl) (fun g L' v m' s₀ hg hv hm => ?_) (fun hp s₉ S => ?_)
          · obtain ⟨tg, rfl⟩ := hv
            refine PX.callF (Ps := [vIs (.ref P), vI ((i + 1 : Nat) : Int), vI (g : Int)]) (Cx.comp_good G rfl) rfl (.cons (PE.cell (c := L + 2) (.tail _ (.tail _ (.tail _ (hYR _ hc2R)))) (by kernel_rfl)) (.cons ((PE.cell (c := L + 3) (.tail _ (.tail _ (.tail _ hc3Y))) (by kernel_rfl)).imp fun v e => ⟨ti, e⟩) (.cons (PE.locI (t := tg) hm) .nil))) (fun s vs gi S av => ?_)
            cases av with
            | cons p1 av => cases av with
              | cons p2 av => cases av with
                | cons p3 av =>
                  cases av
                  have p1 : _ = Value.ref P := p1
                  subst p1
                  obtain ⟨t1, rfl⟩ := p2
                  obtain ⟨t2, rfl⟩ := p3
                  obtain ⟨o, ho, hO⟩ := S.at (.tail _ (.tail _ (.tail _ (hYR _ hPR))))
                  exact fn_hops (d := d + 6) (u := u + 16) G.ok gi S.tk P n par ⟨⟨N, f, o, ho, hO, hf⟩, hpar⟩ (i + 1) g (by omega) (hmem g hg) t1 t2
          have hpl' : ((b.order.map fun g : Nat => (g : Int))).Perm ((List.range n).map fun i : Nat => ((i + 1 : Nat) : Int)) := by
            have := hperm.map fun g : Nat => (g : Int)
            rwa [List.map_map] at this
          have hhs : ((b.order.map fun g => ((hopsN par (i + 1 + g) (i + 1) g : Nat) : Int))).Pairwise (· ≤ ·) := by rw [hb]; exact hW.hops i hi
          have hho : ∀ o, oL (b.order.map fun g => vI ((hopsN par (i + 1 + g) (i + 1) g : Nat) : Int)) o → oL ((b.order.map fun g => ((hopsN par (i + 1 + g) (i + 1) g : Nat) : Int)).map vI) o := fun o h => by rw [List.map_map]; exact h
          refine s_if S (PT.or2 (PT.neL G (PN.ls (PN.sorted (la := b.order.map fun g : Nat => (g : Int)) (lb := (List.range n).map fun i : Nat => ((i + 1 : Nat) : Int)) G (PE.loc (v := .ref od) rfl) (.tail _ (.tail _ (.tail _ (.head _)))) (fun o e => ⟨vso, ko, e, avo'⟩) hpl' (range_sorted n) (by rw [List.length_map]; omega))) (PE.ls (PE.loc (v := .ref pl) (by exact hM.places)) (.tail _ (.tail _ (.tail _ (.tail _ (hYR _ hplR))))) hpin))
            (PT.neL G (PE.ls (la := b.order.map fun g => ((hopsN par (i + 1 + g) (i + 1) g : Nat) : Int)) (PE.loc (v := .ref hp) rfl) (.head _) hho) (PN.ls (PN.sorted (la := b.order.map fun g => ((hopsN par (i + 1 + g) (i + 1) g : Nat) : Int)) G (PE.loc (v := .ref hp) rfl) (.head _) hho (List.Perm.refl _) hhs (by rw [List.length_map]; omega))))) (fun hbb s₁₀ S => by simp at hbb) (fun hbb s₁₀ S => s_nil ?_)
          refine s_assignN S (PN.list .nil (by decide)) (fun row s₁₁ S => ?_)
          refine s_for (fixed := [(pl, fun x => x = PySem.W.listOf vsp.toArray kp)]) (fun j m₂ nw₂ => RowM a lk pl tb wd row m₂ ∧ nw₂ = (row, oL ((List.range j).map fun g => vI (M i g))) :: (hp, oL (b.order.map fun g => vI ((hopsN par (i + 1 + g) (i + 1) g : Nat) : Int))) :: (r, oT [vIs (.ref od), vIs (.ref wd)]) :: (wd, oD (intKind pg C.w) W.length (wf W)) :: (od, fun x => x = PySem.W.listOf vso.toArray ko) :: Y) S
            (PSrc.list (vs := vsp) (k := kp) G.ok.handled (PE.loc (v := .ref pl) (by exact hM.places)) (.inr (.tail _ (.tail _ (.tail _ (.tail _ (.tail _ (hYR _ hplR))))))) (fun _ => .head _))
            ⟨⟨⟨hM.lexer, hM.links, hM.places, hM.table⟩, rfl, rfl⟩, rfl⟩
            (fun j m₂ nw₂ hI x hx => by obtain ⟨_, rfl⟩ := hI; rw [List.mem_singleton.mp hx]; exact .tail _ (.tail _ (.tail _ (.tail _ (.tail _ (hYR _ hplR))))))
            (fun j v I₂ oI₂ m₂ nw₂ s₁₂ hj hv hI S => ?_) (fun m₂ nw₂ s₁₂ hI S => ?_)
          · obtain ⟨hR, rfl⟩ := hI
            rw [hvl] at hj
            obtain ⟨P', hP', pv⟩ := avp.get' hv
            rw [List.getElem?_map, List.getElem?_range hj] at hP'
            have hP' := Option.some.inj hP'
            subst hP'
            obtain ⟨tj, rfl⟩ := pv
            obtain ⟨c, d', hcd, hcl, hdl, hMij⟩ := hW.way i j hi hj
            obtain ⟨e, he, hwf, hep⟩ := wf_some (W := W) (k := j + 1) (x := (c, d')) (by rw [hWp, hb]; exact hcd)
            have hep1 : e.c = c := congrArg Prod.fst hep
            have hep2 : e.d = d' := congrArg Prod.snd hep
            refine as_name S (fun s₁₃ S => ?_)
            refine s_tuple S (PE.idxD (C := CMC C 160 L) (knd := intKind pg C.w) (n := W.length) (f := wf W) (k := ((j + 1 : Nat) : Int)) (PE.loc (v := .ref wd) (by exact hR.ways)) (.inr (.tail _ (.tail _ (.tail _ (.tail _ (.head _)))))) (PE.locI (t := tj) rfl) (fun v e => by obtain ⟨t, rfl⟩ := e; exact intKind_is _ _ _ _) hwf (fun v e => by obtain ⟨t, rfl⟩ := e; with_unfolding_all rfl)) (fun v ext s₁₄ hv S => ?_)
            obtain ⟨hv, rfl⟩ := hv
            have hv : v = .ref e.t := hv
            subst hv
            refine as_tupO ["climbed", "down"] S G.ok.handled (.inr (.tail _ (.tail _ (.tail _ (.tail _ (.tail _ (.tail _ (hWY e he)))))))) (.cons (.cons .nil)) rfl (by kernel_rfl) (by kernel_rfl) (fun vs s₁₅ av S => ?_)
            rw [hep1, hep2] at av
            cases av with
            | cons p1 av => cases av with
              | cons p2 av =>
                cases av
                obtain ⟨t1, rfl⟩ := p1
                obtain ⟨t2, rfl⟩ := p2
                have hz1 := asText_len (ws0 ++ c)
                have hz2 := asValue_len d'
                have h2 := hks.h2
                rw [len_cat] at hz1
                refine s_append (a := row) (Ps := (List.range j).map fun g => vI (M i g)) S (PE.loc (v := .ref row) (by exact hR.row)) (.tail _ (.head _)) (by rw [List.length_map, List.length_range, sizeLine_eq]; omega)
                  (PE.lenS (y := asText (ws0 ++ c) ++ asValue d') G rfl (by decide +kernel) (PE.cat (c_cdata (d := d + 6) (u := u + 16) G (PE.cat (x := ws0) (PE.idxL (i := 0) (Ps := ws.map vS) (P := vS ws0) (PE.cell (c := L + 1) (.tail _ (.tail _ (.tail _ (.tail _ (.tail _ (.tail _ (hYR _ hc1R))))))) (by kernel_rfl)) (.inr (.tail _ (.tail _ (.tail _ (.tail _ (.tail _ (.tail _ (hYR _ hrwR)))))))) PE.kI (by decide) (by decide) (by rw [List.getElem?_map]; show (ws[0]?).map vS = _; rw [hks.head]; rfl)) (PE.locS (t := t1) rfl) (by rw [sizeLine_eq]; omega)) (by rw [len_cat]; omega)) (c_attrib (d := d + 6) (u := u + 16) G (PE.locS (t := t2) rfl) (by omega)) (by rw [sizeLine_eq]; omega)) (by rw [len_cat]; omega)) (fun v ext s₁₆ h S => ?_)
                obtain ⟨hv, rfl⟩ := h
                rw [hMij] at hv
                refine ⟨vI (M i j), _, hv, .tail .head, fun s₁₇ S => s_nil ⟨_, _, S, ⟨⟨hR.lexer, hR.links, hR.places, hR.table⟩, hR.ways, hR.row⟩, ?_⟩⟩
                rw [List.range_succ, List.map_append]; rfl
          · obtain ⟨hR, rfl⟩ := hI
            rw [hvl, hY] at S
            refine s_append (a := tb) (Ps := rs.map fun r => vIs (.ref r)) S (PE.loc (v := .ref tb) (by exact hR.table)) (.tail _ (.tail _ (.tail _ (.tail _ (.tail _ (List.mem_append_right _ (.tail _ (.tail _ (.head _))))))))) (by rw [List.length_map, sizeLine_eq]; omega) (PE.loc (v := .ref row) (by exact hR.row)) (fun v ext s₁₃ h S => ?_)
            obtain ⟨hv, rfl⟩ := h
            refine ⟨vIs (.ref row), _, hv, .tail (.tail (.tail (.tail (.tail (Ch.app (.tail (.tail .head)) (wl W)))))), fun s₁₄ S => s_nil ⟨m₂, ((L + 3, oCell (some (.int ((i + 1 : Nat) : Int) ti))) :: (tb, oL ((rs ++ [row]).map fun r => vIs (.ref r))) :: rwL n M (rs ++ [row])) ++ (lexL a σ₂ ++ R₂), ?_, rs ++ [row], σ₂, [], _, by simp [hrs'], hws₂, hat₂, rfl, fun _ => rfl, hR.toTbM, rfl⟩⟩
            have S := (S.perm (pm4 _ _ _ _ _ _ _ _ _ _ _)).subl (List.sublist_append_right _ _)
            rw [rwL_snoc, List.map_append, hrs']
            exact S
    · obtain ⟨rs, σ₁, l₁, sv, hrs', hws₁, hat₁, hl₁, hl0, hM, rfl⟩ := hI
      rw [hvl] at hrs' hl0
      have := hl0 (by omega)
      subst this
      refine s_ret S (PE.loc (v := .ref tb) hM.table) (fun v ext s₆ h S => ?_)
      obtain ⟨h1, rfl⟩ := h
      have h1 : v = .ref tb := h1
      subst h1
      rw [hR₂] at S
      have S := S.perm (pm3 _ _ _ _ _ _ _ _ _ _ _ _)
      have S := S.subl (List.sublist_append_right _ _)
      rw [rwL_eq hrs', refs_range hrs'] at S
      exact ⟨_, _, _, .inl rfl, ⟨tb, fun i => rs.getD i 0, σ₁, rfl, hws₁, hat₁, rfl⟩, S⟩
end
end
end Mine

-- part L20
namespace Mine
noncomputable section

def dcl (key : Nat → Int) (val : Nat → VP) : Nat → List (Int × VP)
  | 0 => []
  | i + 1 => (key i, val i) :: dcl key val i
def dcf : List (Int × VP) → Int → Option VP
  | [], _ => none
  | e :: r, k => if k = e.1 then some e.2 else dcf r k

theorem u8_inj : ∀ l l' : List UInt8, (l.map fun c => (c.toNat : Int)) = (l'.map fun c => (c.toNat : Int)) → l = l'
  | [], [], _ => rfl
  | a :: l, b :: l', h => by
    rw [List.map_cons, List.map_cons, List.cons.injEq] at h
    have : a.toNat = b.toNat := by omega
    rw [UInt8.toNat_inj.mp this, u8_inj l l' h.2]
  | [], _ :: _, h => by simp at h
  | _ :: _, [], h => by simp at h
theorem count_one (x : Str) (c : Nat) : (Txt.count x ⟨#[c]⟩ : Int) = ((cpsL x).count c : Nat) := by
  rw [count_cnt]
  have : ∀ l : List Nat, cnt c l = (l.count c : Nat) := by
    intro l
    induction l with
    | nil => rfl
    | cons n r ih =>
      rw [cnt_cons, ih, List.count_cons]
      by_cases h : n = c
      · subst h; simp; omega
      · simp [h]
  exact this _
section
variable {C : Cx} {m : Str → Option Value} {nw nw' : Ld} {s : Shared} {Q : Flow → Shared → Prop} {rest body : List Stmt} {p q : Pos} {d u : Nat}

/-- {kx: vx for (..) in iter} -/
theorem ME.dictCompT {kx vx iter : Expr} {elts : List Expr} {kk : Nat} {tp pos : Pos} {scope : Scope} {cl : List (Str × Addr)} {n : Nat} {P : Nat → Value → Prop} {fixed : Ld} (key : Nat → Int) (val : Nat → VP) (hsrc : PSrc C m nw iter n P fixed) (hz : n ≤ sizeLine)
    (hclos : closureFor scope C.env = pure cl) (hfix : ∀ x ∈ fixed, x ∈ nw)
    (hturn : ∀ i v L Y m' s', i < n → P i v → (C.comp scope cl L C.s₀).St m' (Y ++ nw) s' → As (C.comp scope cl L C.s₀) (.Tuple elts kk tp) v (fun s'' => ∃ m'', (C.comp scope cl L C.s₀).St m'' (Y ++ nw) s'' ∧ PE (C.comp scope cl L C.s₀) m'' (Y ++ nw) kx (vI (key i)) ∧ PE (C.comp scope cl L C.s₀) m'' (Y ++ nw) vx (val i)) s')
    (hcell : ∀ y ∈ scope.names, y.2 ≠ .cell := by decide +kernel) (hkind : scope.kind = .function := by first | kernel_rfl | rfl)
    (hnames : ∀ y ∈ scope.names, y.2 = .local → scope.names.lookup y.1 = some .local := by decide +kernel) (hs : ∀ x, foldedSetIterable iter C.env x = pure x := by intro _; rfl) :
    ME C m nw (.DictComp kx vx [⟨.Tuple elts kk tp, iter, [], 0⟩] scope pos) (fun v nw' => ∃ D, v = .ref D ∧ nw' = (D, oD (intKind pg C.w) n (dcf (dcl key val n))) :: nw) := ⟨fun s S => by
  rw [arm_eval_DictComp]
  refine wpAny_comprehension_free (use := none) rfl hs hclos hkind hnames (wpAny_mono (wpAny_toks (hsrc.run s _ S)) (fun xv s₁ z => wpAny_mono (wpAny_toks z.2) (fun it s₂ z' => ?_) fun _ _ z => z.2) fun _ _ z => z.2)
  have tk₂ : s.toks ≤ s₂.toks := Nat.le_trans z.1 z'.1
  obtain ⟨k, I, fp, StI, rfl, Wk, hst, hI, hIfp, hob, hfp, hlt⟩ := z'.2
  obtain ⟨oI, hoI, hpl⟩ := hob _ _ hst
  have S₂ : C.St m ((I, fun x => x = oI) :: nw) s₂ :=
    S.ext (ext := [(I, fun x => x = oI)]) k ⟨fun p hp => by rw [List.mem_singleton.mp hp]; exact ⟨hI, oI, hoI, rfl⟩, by simp⟩ tk₂
  refine wpAny_newObj_type (wpAny_newFunctionEnv hcell (by intro y hy; simp at hy) (fun h₁ hns₁ hsb₁ => ?_) hkind)
  dsimp only at hns₁ hsb₁ ⊢
  have hnew : (s₂.heap.push { cls := .type "dict", dict := none, data := .dict #[] }).DictOf (intKind pg C.w) s₂.heap.objs.size [] := Heap.DictOf.new s₂.heap
  generalize hH2 : s₂.heap.push { cls := .type "dict", dict := none, data := .dict #[] } = H2 at hns₁ hsb₁ hnew ⊢
  obtain ⟨oD₀, hD, hdo⟩ := Heap.dictOf_iff.mp hnew
  have hC : H2.objs.size = s₂.heap.objs.size + 1 := by rw [← hH2, Heap.size_push]
  have kD : Keeps s₂ { s₂ with heap := H2 } := ⟨H2, s₂.toks, rfl, fun b o e => hH2 ▸ Heap.get?_push_of_some _ e⟩
  have S₃ : C.St m ((s₂.heap.objs.size, oD (intKind pg C.w) 0 (dcf (dcl key val 0))) :: (I, fun x => x = oI) :: nw) { s₂ with heap := H2 } :=
    S₂.ext (ext := [(s₂.heap.objs.size, oD (intKind pg C.w) 0 (dcf (dcl key val 0)))]) kD ⟨fun p hp => by rw [List.mem_singleton.mp hp]; exact ⟨Heap.get?_none_of_le (Nat.le_refl _), _, hD, [], hdo, Nat.le_refl _, fun k => rfl⟩, by simp⟩ (Nat.le_refl _)
  have hk₁ : ∀ b o, H2.get? b = some o → h₁.get? b = some o := fun b o e => hsb₁.extBut b o (Nat.ne_of_lt (Heap.lt_size e)) (Heap.get?_push_of_some _ e)
  have S₄ : (C.comp scope cl H2.objs.size C.s₀).St _ ((C.env.locals, oNs m) :: (s₂.heap.objs.size, oD (intKind pg C.w) 0 (dcf (dcl key val 0))) :: (I, fun x => x = oI) :: nw) { s₂ with heap := h₁, toks := s₂.toks } :=
    S₃.push (C2 := C.comp scope cl H2.objs.size C.s₀) rfl rfl hns₁ hk₁ (Nat.le_refl _) (Nat.le_refl _)
  have loop : ∀ s₃ : Shared, s₃ = { s₂ with heap := h₁, toks := s₂.toks + ([] : List (Str × Value)).length } →
      codeAny (model pg C.w) C.A (.compLoop (.DictComp kx vx [⟨.Tuple elts kk tp, iter, [], 0⟩] scope pos) 0 (.ref I) (.ref s₂.heap.objs.size) (compEnvC scope cl H2.objs.size C.env))
        (compPost (model pg C.w) C.A (fun _ _ => False) none (fun v s' => ∃ nw', (∃ D, v = .ref D ∧ nw' = (D, oD (intKind pg C.w) n (dcf (dcl key val n))) :: nw) ∧ C.St m nw' s') (.ref s₂.heap.objs.size) H2.objs.size) s₃ := by
    rintro s₃ rfl
    refine codeAny_loop rfl (fun k s' => ∃ i m' oI, k = n - i ∧ i ≤ n ∧ StI i s'.heap ∧ (C.comp scope cl H2.objs.size C.s₀).St m' ([(C.env.locals, oNs m), (s₂.heap.objs.size, oD (intKind pg C.w) i (dcf (dcl key val i))), (I, fun x => x = oI)] ++ nw) s') (fun k s' hI => ?_) n
      ⟨0, _, oI, by omega, Nat.zero_le _, Wk.frame _ _ _ hst fun b hb o e => hk₁ b o (hH2 ▸ Heap.get?_push_of_some _ e), S₄⟩
    obtain ⟨i, m', oI, rfl, hi, hst', S'⟩ := hI
    show wpAny _ C.A ((compTurn (.DictComp kx vx [⟨.Tuple elts kk tp, iter, [], 0⟩] scope pos) 0 (.ref I) (.ref s₂.heap.objs.size) (compEnvC scope cl H2.objs.size C.env)).onRaise (fun x => do noteFrame x (compEnvC scope cl H2.objs.size C.env); theTreesLotGoes x)) _ _ s'
    refine wpAny_noted ?_
    rw [compTurn_dict]
    refine wpAny_bind (wpAny_standAt (wpAny_bind ?_))
    by_cases hlt' : i < n
    · refine wpAny_with_toks (Nat.le_refl _) (Wk.item i s' _ _ hlt' hst' fun v h' tk hP hst'' hk htk => ?_)
      obtain ⟨o', ho', hpl'⟩ := hob _ _ hst''
      have S'' : (C.comp scope cl H2.objs.size C.s₀).St m' ((I, fun x => x = o') :: (C.env.locals, oNs m) :: (s₂.heap.objs.size, oD (intKind pg C.w) i (dcf (dcl key val i))) :: nw) { s' with heap := h', toks := tk } := by
        have Sp := S'.perm (nw' := (I, fun x => x = oI) :: (C.env.locals, oNs m) :: (s₂.heap.objs.size, oD (intKind pg C.w) i (dcf (dcl key val i))) :: nw) (by
          show List.Perm ((C.env.locals, oNs m) :: (s₂.heap.objs.size, oD (intKind pg C.w) i (dcf (dcl key val i))) :: (I, fun x => x = oI) :: nw) _
          exact (List.Perm.cons _ (List.Perm.swap ..)).trans (List.Perm.swap ..))
        exact Cx.St.over (pre := [(I, fun x => x = oI)]) (pre' := [(I, fun x => x = o')]) Sp (fun b o hb e => hk b o hb e) rfl (fun p hp => by rw [List.mem_singleton.mp hp]; exact ⟨o', ho', rfl⟩) htk
      refine wpAny_bind (wp_letOwned (C := C) ho' hpl' ?_)
      have S'' : (C.comp scope cl H2.objs.size C.s₀).St m' ([(I, fun x => x = o'), (C.env.locals, oNs m), (s₂.heap.objs.size, oD (intKind pg C.w) i (dcf (dcl key val i)))] ++ nw) { s' with heap := h', toks := tk } := S''
      refine wpAny_bind (wpAny_mono (hturn i v H2.objs.size _ m' _ hlt' hP S'').run (fun _ s₃ z => ?_) fun _ _ z => z.elim)
      obtain ⟨m'', S₃, hkx, hvx⟩ := z
      dsimp only
      refine wpAny_bind ?_
      rw [List.forIn_nil]
      refine wpAny_pure ?_
      rw [if_pos rfl]
      refine wpAny_bind (wpAny_bind (hkx.go S₃ fun kv s₄ k₄ S₄ e₄ => wpAny_bind (wpAny_holding (hvx.go S₄ fun vv s₅ k₅ S₅ e₅ => wpAny_bind (wpAny_standAt (wpAny_holding ?_))))))
      obtain ⟨od, hod, kvs, hdk, hnl, hvv⟩ := S₅.at (a := s₂.heap.objs.size) (.tail _ (.tail _ (.head _)))
      obtain ⟨tkk, rfl⟩ := e₄
      refine wpAny_dictSet_pairs (hsz := Nat.le_trans hnl (Nat.le_trans hi hz)) (intKind_is _ _ _ _) (Heap.dictOf_iff.mpr ⟨od, hod, hdk⟩) fun h₆ hl₆ hs₆ => wpAny_pure ⟨rfl, ?_⟩
      obtain ⟨o₆, ho₆, hd₆⟩ := Heap.dictOf_iff.mp hl₆
      have S₆ := S₅.ch (k := s₅.toks + 1) (nw' := (I, fun x => x = o') :: (C.env.locals, oNs m) :: (s₂.heap.objs.size, oD (intKind pg C.w) (i + 1) (dcf (dcl key val (i + 1)))) :: nw) (.tail (.tail .head)) hs₆ ho₆
        ⟨_, hd₆, by have := stored_length_le kvs (key i) vv; omega, fun k => by
          rw [valueAt_stored]
          show match (if k = key i then some (val i) else dcf (dcl key val i) k) with | none => _ | some P => _
          by_cases hk : k = key i
          · simp only [hk, if_true]; exact ⟨vv, rfl, e₅⟩
          · simp only [hk, if_false]; exact hvv k⟩ (Nat.le_succ _)
      refine ⟨n - (i + 1), by omega, i + 1, _, o', rfl, hlt', ?_, S₆.perm (by
          show List.Perm _ ((C.env.locals, oNs m) :: (s₂.heap.objs.size, oD (intKind pg C.w) (i + 1) (dcf (dcl key val (i + 1)))) :: (I, fun x => x = o') :: nw)
          exact ((List.Perm.cons _ (List.Perm.swap ..)).trans (List.Perm.swap ..)).symm)⟩
      refine Wk.frame _ _ _ hst'' fun b hb o e => ?_
      by_cases hbI : b = I
      · subst hbI
        obtain ⟨⟨o₃, e₃, q₃⟩, _⟩ := S₆.led _ (.head _)
        have : o = o' := Option.some.inj (e.symm.trans ho')
        have q₃ : o₃ = o' := q₃
        rw [this, ← q₃]; exact e₃
      · rcases hfp b hb hbI with ⟨o₀, e₀⟩ | ⟨o₁, hf⟩
        · have h1 := S''.fr.keep b o₀ e₀
          have : o = o₀ := Option.some.inj (e.symm.trans h1)
          rw [this]; exact S₆.fr.keep b o₀ e₀
        · obtain ⟨⟨o₂, e₂, q₂⟩, _⟩ := S''.led _ (.tail _ (.tail _ (.tail _ (hfix _ hf))))
          obtain ⟨⟨o₃, e₃, q₃⟩, _⟩ := S₆.led _ (.tail _ (.tail _ (.tail _ (hfix _ hf))))
          have : o = o₂ := Option.some.inj (e.symm.trans e₂)
          have q₂ : o₂ = o₁ := q₂
          have q₃ : o₃ = o₁ := q₃
          rw [this, q₂, ← q₃]; exact e₃
    · have hin : i = n := by omega
      subst hin
      refine wpAny_with_toks (Nat.le_refl _) (Wk.done s' _ _ hst' fun h' tk hk htk => wpAny_pure ?_)
      have Sp := S'.perm (nw' := (I, fun x => x = oI) :: (C.env.locals, oNs m) :: (s₂.heap.objs.size, oD (intKind pg C.w) i (dcf (dcl key val i))) :: nw) (by
          show List.Perm ((C.env.locals, oNs m) :: (s₂.heap.objs.size, oD (intKind pg C.w) i (dcf (dcl key val i))) :: (I, fun x => x = oI) :: nw) _
          exact (List.Perm.cons _ (List.Perm.swap ..)).trans (List.Perm.swap ..))
      have S₅ : (C.comp scope cl H2.objs.size C.s₀).St m' ((C.env.locals, oNs m) :: (s₂.heap.objs.size, oD (intKind pg C.w) i (dcf (dcl key val i))) :: nw) { s' with heap := h', toks := tk } := Cx.St.drop (pre := [(I, fun x => x = oI)]) Sp (fun b o hb e => hk b o hb e) htk
      have S₆ : C.St m ((s₂.heap.objs.size, oD (intKind pg C.w) i (dcf (dcl key val i))) :: nw) { s' with heap := h', toks := tk } := S₅.pop rfl rfl S.fr.above
      have hLC : (C.comp scope cl H2.objs.size C.s₀).env.locals ≠ C.env.locals := (S₅.led (C.env.locals, oNs m) (.head _)).2.1.symm
      have hLC2 : ∀ p ∈ (s₂.heap.objs.size, oD (intKind pg C.w) i (dcf (dcl key val i))) :: nw, p.1 ≠ (C.comp scope cl H2.objs.size C.s₀).env.locals := fun p hp => (S₅.led p (.tail _ hp)).2.1
      have hL0 : C.h₀.get? (C.comp scope cl H2.objs.size C.s₀).env.locals = none := Heap.get?_none_of_le S₅.fr.above
      refine ⟨m', S₅.fr.ns, fun h₃ hs₃ => ⟨_, ⟨_, rfl, rfl⟩, ?_⟩⟩
      exact ⟨let ⟨_, _, e⟩ := S'.same; ⟨h₃, tk, by rw [e]⟩, ⟨S₆.fr.ns.sameBut hs₃ hLC.symm, fun b o e => (hs₃.2 b fun q => by rw [q] at e; exact nomatch hL0.symm.trans e).trans (S₆.fr.keep b o e), S₆.fr.above⟩, fun p hp => let ⟨⟨o, a, b⟩, c⟩ := S₆.led p hp; ⟨⟨o, (hs₃.2 _ (hLC2 p hp)).trans a, b⟩, c⟩, S₆.nd, S₆.tk⟩
  exact codeAny_compStart_dict (loop _ rfl) (Wk.self 0 _ _ _ (Wk.frame _ _ _ hst fun b hb o e => hk₁ b o (hH2 ▸ Heap.get?_push_of_some _ e)) (loop _ rfl))⟩

/-- f(a, b, e), e may change the ledger -/
theorem ME.callPPM {x : Str} {f : Addr} {a b e : Expr} {Pa Pb : VP} {F₁ F : Value → Ld → Prop} (G : C.Good d u) (hx : nsIn (KF C.w) mainGlobals x = some (some (.ref f))) (hk : keepIn (KF C.w) (.ref f) = true) (ha : PE C m nw a Pa) (hb : PE C m nw b Pb) (he : ME C m nw e F₁)
    (hc : ∀ s va vb v nw₁, Pa va → Pb vb → F₁ v nw₁ → C.St m nw₁ s → codeAny (model pg C.w) C.A (.call (.ref f) ⟨[va, vb, v], []⟩) (RetM C m F) s) (hst : starEach [a, b, e] C.env = [(false, eval a C.env), (false, eval b C.env), (false, eval e C.env)] := by rfl) (hl : C.env.kindOf x = some .globalImplicit := by first | kernel_rfl | rfl) (hd : (x == ("__debug__" : Str)) = false := by decide +kernel) :
    ME C m nw (.Call (.Name x p) [a, b, e] [] q) F := ⟨fun s S => by
  refine wpAny_Call_NameR ((PE.glob G hx hl hd).go S fun v s₁ k S₁ z => ?_)
  have z : v = _ := z
  subst z
  rw [hst]
  refine callWith_of (P := fun h => (KF C.w).In h) rfl (keeps_K hk) (evalArgs_plain (Calls.spliced_cons (ha.go S₁ fun va s₂ k₂ S₂ pa => Calls.spliced_cons (hb.go S₂ fun vb s₃ k₃ S₃ pb => Calls.spliced_cons (he.go S₃ fun v nw₁ s₄ f₁ S₄ => Calls.spliced_nil ?_)))))
  refine ⟨(S₄.gi G).K, wpAny_call (codeAny_mono (hc s₄ va vb v nw₁ pa pb f₁ S₄) fun r s₅ z => ?_)⟩
  obtain ⟨v, nw', rfl, f, S₅⟩ := z
  exact ⟨nw', f, S₅⟩⟩
/-- f(e), e may change the ledger, f only makes something -/
theorem ME.callX1 {x : Str} {f : Addr} {e : Expr} {F₁ : Value → Ld → Prop} {F : FP} {F' : Value → Ld → Prop} (G : C.Good d u) (hx : nsIn (KF C.w) mainGlobals x = some (some (.ref f))) (hk : keepIn (KF C.w) (.ref f) = true) (he : ME C m nw e F₁)
    (hc : ∀ s v nw₁, F₁ v nw₁ → C.St m nw₁ s → codeAny (model pg C.w) C.A (.call (.ref f) ⟨[v], []⟩) (RetX s F) s) (hF : ∀ v nw₁ v' ext, F₁ v nw₁ → F v' ext → F' v' (ext ++ nw₁)) (hst : starEach [e] C.env = [(false, eval e C.env)] := by rfl) (hl : C.env.kindOf x = some .globalImplicit := by first | kernel_rfl | rfl) (hd : (x == ("__debug__" : Str)) = false := by decide +kernel) :
    ME C m nw (.Call (.Name x p) [e] [] q) F' := ⟨fun s S => by
  refine wpAny_Call_NameR ((PE.glob G hx hl hd).go S fun v s₁ k S₁ z => ?_)
  have z : v = _ := z
  subst z
  rw [hst]
  refine callWith_of (P := fun h => (KF C.w).In h) rfl (keeps_K hk) (evalArgs_plain (Calls.spliced_cons (he.go S₁ fun v nw₁ s₂ f₁ S₂ => Calls.spliced_nil ?_)))
  have h1 : wpAny (model pg C.w) C.A (call (.ref f) [v]) (fun v' s₃ => Keeps s₂ s₃ ∧ ∃ ext, F v' ext ∧ Fresh s₂.heap s₃.heap ext) (fun _ _ => False) s₂ :=
    wpAny_call (codeAny_mono (hc s₂ v nw₁ f₁ S₂) fun r s₃ z => by obtain ⟨v', rfl, k₃, ext, fe, fr⟩ := z; exact ⟨k₃, ext, fe, fr⟩)
  refine ⟨(S₂.gi G).K, wpAny_mono (wpAny_toks h1) (fun v' s₃ z => ?_) fun _ _ z => z.2⟩
  obtain ⟨htk, k₃, ext, fe, fr⟩ := z
  exact ⟨_, hF v nw₁ v' ext f₁ fe, S₂.ext k₃ fr htk⟩⟩

/-- a list of texts, here or made -/
def lsS (nw : Ld) (la : List Str) : FP := fun v ext => ∃ x, v = .ref x ∧ (x, oL (la.map vS)) ∈ ext ++ nw
theorem PE.lss {e : Expr} {l : Addr} {la : List Str} (he : PE C m nw e (vIs (.ref l))) (hl : (l, oL (la.map vS)) ∈ nw) : PX C m nw e (lsS nw la) :=
  PX.mono he fun v ext h => ⟨l, h.1, by rw [h.2]; exact hl⟩
theorem readsAll_strs {h : Heap} : ∀ {vs : List Value} {ns : List Str}, StrsAre vs ns → ReadsAll h vs (ns.map PyData.str) []
  | _, _, .nil => .nil
  | _, _, .cons k t r => by
    have := ReadsAll.cons (Reads.str (h := h) k t) (readsAll_strs (h := h) r)
    simpa using this
theorem strs_shaped {la : List Str} (h : ∀ w ∈ la, PyData.strOk w = true) : SeqAt.shaped (.list (la.map PyData.str)) = true := by
  have h1 : ∀ l : List Str, (∀ w ∈ l, PyData.strOk w = true) → PyData.canLayAll0 (l.map PyData.str) = true := by
    intro l
    induction l with
    | nil => intro _; rfl
    | cons w r ih => intro h; rw [List.map_cons, PyData.canLayAll0, ih fun x hx => h x (.tail _ hx)]; simp [PyData.canLay0, h w (.head _)]
  have h2 : ∀ l : List Str, PyData.depthAll (l.map PyData.str) ≤ 1 := by
    intro l
    induction l with
    | nil => simp [PyData.depthAll]
    | cons w r ih => simp only [List.map_cons, PyData.depthAll, PyData.depth]; omega
  have h3 : PyData.depth (.list (la.map PyData.str)) ≤ 64 := by have := h2 la; simp only [PyData.depth]; omega
  show (PyData.canLay0 (.list (la.map PyData.str)) && decide (PyData.depth (.list (la.map PyData.str)) ≤ 64)) = true
  rw [Bool.and_eq_true]
  exact ⟨by simp only [PyData.canLay0]; exact h1 la h, decide_eq_true h3⟩
theorem eqv_strs : ∀ la : List Str, PyData.eqvAll (la.map PyData.str) (la.map PyData.str) = true
  | [] => by simp [PyData.eqvAll]
  | a :: r => by simp [PyData.eqvAll, PyData.eqv, eqv_strs r]
theorem PT.neLS {a b : Expr} {la : List Str} (G : C.Good d u) (ha : PX C m nw a (lsS nw la)) (hb : PX C m nw b (lsS nw la)) (hok : ∀ w ∈ la, PyData.strOk w = true) (hm : behindInMarks .NotEq b = false := by with_unfolding_all rfl) : PT C m nw (.Compare a [.NotEq] [b] p) false := by
  refine PT.mk fun s E S => ?_
  refine wpAny_isTrue_Compare1 ?_ hm
  refine ha.go S fun v s₁ ext k₁ S₁ S₁' f fr => hb.go S₁ fun v' s₂ ext₂ k₂ S₂ S₂' f₂ fr₂ => ?_
  obtain ⟨x, rfl, hx⟩ := f
  obtain ⟨y, rfl, hy⟩ := f₂
  obtain ⟨o, ho, vs, k, rfl, av⟩ := S₁'.at hx
  obtain ⟨o, ho₂, us, k', rfl, au⟩ := S₂'.at hy
  refine ne_dataH (Reads.list (keeps_get k₂ ho) rfl rfl (by simpa using readsAll_strs (strsAre_of av))) (Reads.list ho₂ rfl rfl (by simpa using readsAll_strs (strsAre_of au))) (strs_shaped hok) (strs_shaped hok) (by have := G.ok.units; show C.A.units + 64 < 9900; omega) ?_
  have e : (!PyData.eqv (.list (la.map PyData.str)) (.list (la.map PyData.str))) = false := by simp [PyData.eqv, eqv_strs]
  rw [e]
  exact wpAny_truthy_bool ⟨keeps_tr k₁ (keeps_tr k₂ (keeps_tok _ _)), rfl⟩

/-- two new lists of bytes, alike -/
theorem PE.eqLY {a b : Expr} {la : List (List Int)} (G : C.Good d u) (ha : PN C m nw a (oL (la.map vY))) (hb : PN C m nw b (oL (la.map vY))) (hm : behindInMarks .Eq b = false := by with_unfolding_all rfl) : PE C m nw (.Compare a [.Eq] [b] p) (vT true) := PX.mk fun s E S => by
  refine wpAny_Compare1 ?_ hm
  refine ha.go S fun v s₁ ext k₁ S₁ S₁' f fr => hb.go S₁ fun v' s₂ ext₂ k₂ S₂ S₂' f₂ fr₂ => ?_
  obtain ⟨x, rfl, rfl⟩ := f
  obtain ⟨y, rfl, rfl⟩ := f₂
  obtain ⟨o, ho, vs, k, rfl, av⟩ := S₁'.at (.head _)
  obtain ⟨o, ho₂, us, k', rfl, au⟩ := S₂'.at (.head _)
  have hsz : vs.length = us.length := by rw [av.length, au.length]
  refine SeqAt.eq_listAt (e := fun _ => true) (isList_of (keeps_get k₂ ho)) (isList_of ho₂) (by simpa using hsz) (by have := G.ok.units; show C.A.units < 9900; omega) (fun j h1 h2 => ?_) ?_
  · have h1 : j < vs.length := by simpa using h1
    have h2 : j < us.length := by simpa using h2
    obtain ⟨P, hP, p1⟩ := av.get' (List.getElem?_eq_getElem h1)
    obtain ⟨P', hP', p2⟩ := au.get' (List.getElem?_eq_getElem h2)
    rw [List.getElem?_map] at hP hP'
    cases q : la[j]? with
    | none => rw [q] at hP; cases hP
    | some ks =>
      rw [q] at hP hP'
      cases hP; cases hP'
      obtain ⟨b1, t1, e1, h1⟩ := p1
      obtain ⟨b2, t2, e2, h2⟩ := p2
      intro prog w E Q hq
      show wpAny _ _ (eqBool (vs[j]) (us[j])) Q E _
      rw [e1, e2]
      refine eqBool_bytes ?_
      have : b1.toList = b2.toList := by
        have h3 : KBw.bInts b1 = KBw.bInts b2 := h1.trans h2.symm
        exact u8_inj _ _ h3
      rw [decide_eq_true this]; exact hq
  · have : (List.range vs.toArray.size).all (fun _ => true) = true := by simp
    rw [this]
    exact ⟨keeps_tr k₁ k₂, [], ⟨rfl, rfl⟩, Fresh.nil⟩

/-- x.count('c') -/
theorem PE.count {ox : Expr} {x : Str} {c k1 : Nat} {apos cpos p1 : Pos} {y : Str} (ho : PE C m nw ox (vS x)) (hy : y = ⟨#[c]⟩) (hcall : McEq C ox "count" apos [.Constant (.str y) k1 p1] cpos) :
    PE C m nw (.Call (.Attribute ox "count" apos) [.Constant (.str y) k1 p1] [] cpos) (vI ((cpsL x).count c : Nat)) := PX.mk fun s E S => by
  subst hy
  refine MethodCall_ (ho.go S fun v s₁ k₁ S₁ e => ?_) hcall
  obtain ⟨t, rfl⟩ := e
  refine GM.count (callWith_builtin rfl (Calls.evalArgs_plain (Calls.spliced_cons (wpAny_Constant_str (k := k1) (pos := p1) (Calls.spliced_nil ?_)))))
  refine SC.count ?_
  rw [count_one]
  exact ⟨keeps_tr k₁ (keeps_tok s₁ _), [], ⟨⟨_, rfl⟩, rfl⟩, Fresh.nil⟩
end
end
end Mine

-- part L21
namespace Mine
noncomputable section

/-- the one table that grows: that of the code of _law_stream -/
abbrev lawT : List (Addr × Addr) := [(90, 86)]
noncomputable def CG (w : World) (A : Around) (f : Addr) (s : Shared) (L : Addr) : Cx := ⟨w, A.deeper (envAtC w f L), envAtC w f L, ghostOf s.heap lawT, s⟩
/-- how the law ends -/
def LawEnd (s : Shared) (F : Value → Prop) : Result → Shared → Prop := fun r s' => ∃ v, r = .ok (.ret v) ∧ F v ∧ (∀ b o, (ghostOf s.heap lawT).get? b = some o → s'.heap.get? b = some o) ∧ (∃ ps, s'.heap.get? 86 = some (tabObj ps)) ∧ ∃ h tk, s' = { s with heap := h, toks := tk }

section
variable {M : Model} {A : Around} {E : Value → Shared → Prop} {s : Shared}
/-- a frame with one argument: the frame, and then the argument's store -/
theorem newEnv_one {scope : Scope} {globals : Addr} {n : Str} {v : Value} {qual : Str} {func : Option Addr} {code : Value} {builtins : Addr} :
    newFunctionEnv scope globals [] [(n, v)] qual func code none builtins = newFunctionEnv scope globals [] [] qual func code none builtins >>= fun env => storeName env n v >>= fun _ => pure env := by
  simp [newFunctionEnv]
theorem newEnv_tok {scope : Scope} {globals : Addr} {n : Str} {v : Value} {qual : Str} {func : Option Addr} {code : Value} {builtins : Addr} {Q : Env → Shared → Prop}
    (hk : scope.kind = .function) (hl : scope.names.lookup n = some .local)
    (hQ : ∀ env, env = newEnv scope s.heap.objs.size globals (cellsFrom (s.heap.objs.size + 1) scope.names []) qual func code none builtins →
      ∀ s', InCallC s env.locals (bindL env.kindOf [(n, v)] fun _ => none) env.cells (bindC env.kindOf [(n, v)] fun _ => none) s' → 0 < s'.toks → Q env s') :
    wpAny M A (newFunctionEnv scope globals [] [(n, v)] qual func code none builtins) Q E s := by
  rw [newEnv_one]
  refine wpAny_bind (wpAny_newFunctionEnv_cells hk (fun _ h => nomatch h) fun env he s₁ x => ?_)
  subst he
  have hl' : (newEnv scope s.heap.objs.size globals (cellsFrom (s.heap.objs.size + 1) scope.names []) qual func code none builtins).kindOf n = some .local := hl
  have x₀ := x.toInCall
  refine wpAny_bind (wpAny_storeName_local hl' x₀.ns (fun h' hns hsb => wpAny_pure (hQ _ rfl _ ?_ (Nat.succ_pos _))) (by show (scope.kind == .class || (scope.kind == .module && _)) = false; rw [hk]; rfl))
  have hm : (bindL (newEnv scope s.heap.objs.size globals (cellsFrom (s.heap.objs.size + 1) scope.names []) qual func code none builtins).kindOf [(n, v)] fun _ => none) = fun y => if y = n then some v else none := by
    unfold bindL bindL; rw [if_pos hl']
  have hc : (bindC (newEnv scope s.heap.objs.size globals (cellsFrom (s.heap.objs.size + 1) scope.names []) qual func code none builtins).kindOf [(n, v)] fun _ => none) = fun _ => none := by
    unfold bindC bindC; rw [if_pos hl']
  rw [hm, hc]
  have hne : ∀ b o, s.heap.get? b = some o → b ≠ s.heap.objs.size := fun b o e => Nat.ne_of_lt (Heap.lt_size e)
  exact ⟨⟨let ⟨a, b, e⟩ := x₀.same; ⟨h', _, by rw [e]⟩, hns, fun b o e => (hsb.2 b (hne b o e)).trans (x₀.keep b o e), x₀.fresh⟩,
    fun k c e => (x.cell k c e).sameBut hsb (Nat.ne_of_gt (x.above k c (mem_of_lookup e))), x.apart, x.above⟩
end

section
variable {pr : Program} {loose : List Str} {mean : ExcName → Option Value} {mg mb : Str → Option Value} {d u : Nat}
theorem fnCallG {w : World} {A : Around} {s : Shared} {f : Addr} {oc : Value} {od : Option Addr} {osl : Array (Option Value)} {name : Str} {params : Arguments} {body : List Stmt} {scope : Scope} {pm cd doc : Value} {args : List Value} {bn : Str} {bv : Value} {F : Value → Prop}
    (hk : Ok A (d + 1) (u + 3)) (hK : (KF w).In s.heap) (T : Top pr loose mean mg mb s.heap) (hT : TabsAt lawT s.heap) (ho : (KF w).lookup f = some ⟨oc, od, .func (docDef name params body scope pm cd doc), osl⟩) (hcd : codeIn (KF w) cd name = true)
    (hbind : bindArgs (docDef name params body scope pm cd doc) ⟨args, []⟩ = pure [(bn, bv)])
    (hkind : scope.names.lookup bn = some .local)
    (hnd : ((cellsFrom 0 scope.names []).map (·.1)).Nodup) (hnd2 : ∀ n, ((cellsFrom n scope.names []).map (·.2)).Nodup)
    (h : ∀ L s₁, (CG w A f s L).Good d u → Top topProg (loose ++ (recsOf pr).map (·.name) ++ (litsOf pr).map (·.1) ++ (clssOf pr loose).map (·.name)) mean mg mb (CG w A f s L).h₀ →
      (CG w A f s L).St (bindL (envAtC w f L).kindOf [(bn, bv)] fun _ => none) ((cellsFrom (L + 1) scope.names []).map (fun q => (q.2, oCell (bindC (envAtC w f L).kindOf [(bn, bv)] (fun _ => none) q.1))) ++ [(86, fun o => o = tabObj #[])]) s₁ →
      Ex (CG w A f s L) body (fun fl s' => ∃ v m nw', fl = .ret v ∧ F v ∧ (CG w A f s L).St m ((86, fun o => ∃ ps, o = tabObj ps) :: nw') s') s₁)
    (hco : scope.isCoroutine = false := by rfl) (hgen : scope.isGenerator = false := by rfl) (hkk : scope.kind = .function := by rfl) :
    codeAny (model pg w) A (.call (.ref f) ⟨args, []⟩) (LawEnd s F) s := by
  have T' := ghost_top hT T
  have g : GI w (ghostOf s.heap lawT) := ⟨ghost_K hT hK (by kernel_rfl), mg, mb, T'.g, T'.b, T'.nolimit, T'.builtins⟩
  refine codeAny_call_function hk.room (hK _ _ ho) rfl hco hgen rfl (codeRec_of hK hcd) ?_
  rw [hbind]
  refine wpAny_pure (newEnv_tok hkk hkind fun env' he s' x htk => ?_)
  subst he
  refine ⟨T.nolimit.keeps x.toInCall.keep, codeAny_func ?_⟩
  have hk₁ := x.toInCall.keep
  have hns := x.toInCall.ns
  obtain ⟨h₁, tk, rfl, _⟩ := x.done
  have hcell : ∀ q ∈ cellsFrom (s.heap.objs.size + 1) scope.names [], h₁.IsCell q.2 (bindC (envOfC name scope s.heap.objs.size f cd).kindOf [(bn, bv)] (fun _ => none) q.1) ∧ s.heap.objs.size < q.2 := fun q hm =>
    ⟨x.cell q.1 q.2 (lookup_of_mem_nodup (cellsFrom_names scope.names 0 (s.heap.objs.size + 1) [] [] rfl ▸ hnd) hm), x.above q.1 q.2 hm⟩
  have h86 := (hT _ (.head _)).2
  have h86s : (86 : Addr) < s.heap.objs.size := Heap.lt_size h86
  have F₀ := ghost_fr hT (show Fr s.heap s.heap.objs.size h₁ _ from ⟨hns, hk₁, Nat.le_refl _⟩)
  have e : CG w A f s s.heap.objs.size = ⟨w, A.deeper (envOfC name scope s.heap.objs.size f cd), envOfC name scope s.heap.objs.size f cd, ghostOf s.heap lawT, s⟩ := by unfold CG; rw [envAtC_eq ho]
  have h := h s.heap.objs.size
  rw [e, envAtC_eq ho] at h
  refine wpAny_mono (h { s with heap := h₁, toks := tk } ⟨g, hk.deeper _, hkk, rfl, rfl⟩ T' ⟨⟨h₁, tk, rfl⟩, F₀, fun p hp => ?_, ?_, htk⟩).run (fun fl s' z => ?_) fun _ _ z => z.elim
  · rcases List.mem_append.mp hp with hp | hp
    · obtain ⟨q, hq, rfl⟩ := List.mem_map.mp hp
      obtain ⟨h1, h2⟩ := hcell q hq
      exact ⟨h1, Nat.ne_of_gt h2, ghost_fresh (Heap.get?_none_of_le (Nat.le_of_lt h2))⟩
    · rw [List.mem_singleton.mp hp]
      exact ⟨⟨_, hk₁ _ _ h86, rfl⟩, Nat.ne_of_lt h86s, hideAll_none _ (List.mem_map_of_mem (f := fun q : Addr × Addr => q.2) (List.Mem.head (a := ((90, 86) : Addr × Addr)) []))⟩
  · rw [List.map_append, List.map_map]
    refine nodup_app (hnd2 _) (by simp) fun y hy hy2 => ?_
    obtain ⟨q, hq, rfl⟩ := List.mem_map.mp hy
    have := (hcell q hq).2
    rw [List.map_cons, List.map_nil, List.mem_singleton] at hy2
    have hy2 : q.2 = 86 := hy2
    rw [hy2] at this
    exact Nat.lt_irrefl _ (Nat.lt_trans this h86s)
  · obtain ⟨v, m, nw', rfl, hF, S'⟩ := z
    obtain ⟨o, ho, ps, rfl⟩ := S'.at (.head _)
    exact ⟨v, rfl, hF, S'.fr.keep, ⟨ps, ho⟩, S'.same⟩
end

section
variable {C : Cx} {m : Str → Option Value} {nw nw' : Ld} {s : Shared} {Q : Flow → Shared → Prop} {rest body : List Stmt} {p q : Pos} {d u : Nat}
theorem s_assignCellM {x : Str} {e : Expr} {F : Value → Ld → Prop} {c : Addr} {v₀ : Option Value} (S : C.St m nw s) (he : ME C m nw e F) (hc : C.env.cells.lookup x = some c)
    (h : ∀ v nw₁, F v nw₁ → ∃ nw', Ch c (oCell v₀) (oCell (some v)) nw₁ nw' ∧ ∀ s₂, C.St m nw' s₂ → Ex C rest Q s₂)
    (hk : C.env.scope.kind = .function := by first | kernel_rfl | rfl) (hl : C.env.kindOf x = some .cell := by first | kernel_rfl | rfl) (hs : swapsWith e (some (.Name x q)) p.line C.env = pure false := by first | kernel_rfl | rfl) :
    Ex C (.Assign [.Name x q] e p :: rest) Q s := by
  refine ex_cons (wpAny_Assign_Name (he.go S fun v nw₁ s₁ f S₁ => ?_) hs)
  obtain ⟨nw', ch, g⟩ := h v nw₁ f
  exact st_cell S₁ ch hc (fun s₂ S₂ => g s₂ S₂) hk hl

theorem tupL_at {qs : List (Addr × Stp)} {i : Nat} {t : Addr} {st : Stp} (h1 : (qs.reverse.map (·.1))[i]? = some t) (h2 : (qs.reverse.map (·.2))[i]? = some st) : (t, oStp st) ∈ tupL qs := by
  rw [List.getElem?_map] at h1 h2
  cases q : qs.reverse[i]? with
  | none => rw [q] at h1; cases h1
  | some e =>
    rw [q] at h1 h2
    cases h1; cases h2
    have := List.mem_of_getElem? q
    exact List.mem_map_of_mem (f := fun e : Addr × Stp => (e.1, oStp e.2)) (List.mem_reverse.mp this)
theorem allp_refs : ∀ {ts : List Addr} {vs : List Value}, AllP (ts.map fun t => vIs (.ref t)) vs → vs = ts.map Value.ref
  | [], _, .nil => rfl
  | t :: ts, _, .cons p av => by
    have p : _ = Value.ref t := p
    rw [p, allp_refs av]; rfl
theorem stepsAt (S : C.St m nw s) {a : Addr} {qs : List (Addr × Stp)} (ha : (a, refsL (qs.reverse.map (·.1))) ∈ nw) (hq : ∀ e ∈ tupL qs, e ∈ nw) : StepsAt s.heap a (qs.reverse.map (·.1)) (qs.reverse.map (·.2)) := by
  refine ⟨?_, by simp, fun i t st h1 h2 => S.at (hq _ (tupL_at h1 h2))⟩
  obtain ⟨o, ho, vs, k, rfl, av⟩ := S.at ha
  exact ⟨k, by rw [ho, allp_refs av]⟩
theorem tableAt (S : C.St m nw s) {T : Addr} {n : Nat} {tr : Nat → Addr} {M : Nat → Nat → Int} (hT : (T, oL ((List.range n).map fun i => vIs (.ref (tr i)))) ∈ nw) (hr : ∀ e ∈ rowLd n tr M, e ∈ nw) : TableAt s.heap T n tr M := by
  refine ⟨?_, fun i hi => S.at (hr _ (List.mem_map_of_mem (f := fun i => (tr i, rowO n (M i))) (List.mem_range.mpr hi)))⟩
  obtain ⟨o, ho, vs, k, rfl, av⟩ := S.at hT
  refine ⟨k, ?_⟩
  have := allp_refs (ts := (List.range n).map tr) (vs := vs) (by rw [List.map_map]; exact av)
  rw [ho, this, List.map_map]; rfl

theorem pmA {α : Type} (r2 wl r1 a c T : α) (Y : List α) : (r2 :: wl :: r1 :: ((Y ++ [a]) ++ [c, T])).Perm ((T :: c :: wl :: a :: Y) ++ [r1, r2]) := by
  classical
  rw [List.perm_iff_count]; intro x
  simp only [List.count_cons, List.count_append, List.count_nil]
  omega
theorem range03 {k : Nat} (h : k ≤ 6) : Builtin.Range.small 0 ((3 * k + 1 : Nat) : Int) 3 = true ∧ Builtin.Range.rangeSize 0 ((3 * k + 1 : Nat) : Int) 3 = ((k + 1 : Nat) : Int) := by
  have : ∀ k : Fin 7, Builtin.Range.small 0 ((3 * k.val + 1 : Nat) : Int) 3 = true ∧ Builtin.Range.rangeSize 0 ((3 * k.val + 1 : Nat) : Int) 3 = ((k.val + 1 : Nat) : Int) := by decide +kernel
  exact this ⟨k, by omega⟩
end
end
end Mine

-- part F20
namespace Mine
noncomputable section

/-- what the plain part tells of a head and its steps -/
structure LawOk (hd : Int) (sts : List Stp) (lx : Nat → List Nat) (par : Nat → Nat) (ks : List Lk) (ws0 : Str) (M : Nat → Nat → Nat → Int) : Prop where
  page : (pageOf hd sts).length ≤ 10000
  lx0 : lx 0 = cpsL (pageOf hd sts)
  lxs : ∀ i x, (wordsOf hd sts)[i]? = some x → lexT (lx i) = (cpsL x, lx (i + 1))
  lxe : lexT (lx (wordsOf hd sts).length) = ([], [])
  str : ∀ x ∈ wordsOf hd sts, PyData.strOk x = true
  sm : ∀ i x, (wordsOf hd sts)[3 * i]? = some x → x.length ≤ 2
  words : WordsOk (wordsOf hd sts) ws0 ks
  num : ks.length = sts.length
  hpar : ∀ (i : Nat) st, sts[i]? = some st → st.parent = (par (i + 2) : Nat)
  parlt : ∀ k, 2 ≤ k → k ≤ ks.length + 1 → 1 ≤ par k ∧ par k < k
  walks : WalksOk (ks.length + 1) par ks ws0 (M 0)
  bar : Bar (ks.length + 1) M
  due : (dueSig hd sts).out = (List.range (ks.length + 1)).map fun k => M k k k

theorem dcf_at {val : Nat → VP} {n i : Nat} (h : i < n) : dcf (dcl (fun i => ((i + 2 : Nat) : Int)) val n) ((i + 2 : Nat) : Int) = some (val i) := by
  induction n with
  | zero => omega
  | succ n ih =>
    show (if ((i + 2 : Nat) : Int) = ((n + 2 : Nat) : Int) then some (val n) else dcf (dcl _ val n) _) = _
    by_cases e : i = n
    · subst e; rw [if_pos rfl]
    · rw [if_neg (by omega)]; exact ih (by omega)

structure LwM (hd : Int) (th : Tok) (a : Addr) (pgt : Str) (tp : Tok) (wl D : Addr) (m : Str → Option Value) : Prop where
  head : m "head" = some (.int hd th)
  steps : m "steps" = some (.ref a)
  page : m "page" = some (.str pgt tp)
  words : m "words" = some (.ref wl)
  read : m "read" = some (.ref D)
theorem stepsAt' {C : Cx} {m : Str → Option Value} {nw : Ld} {s : Shared} (S : C.St m nw s) {a : Addr} {k : Nat} {qs : List (Addr × Stp)} (ha : (a, fun x => x = PySem.W.listOf (((qs.reverse.map (·.1)).map Value.ref).toArray) k) ∈ nw) (hq : ∀ e ∈ tupL qs, e ∈ nw) : StepsAt s.heap a (qs.reverse.map (·.1)) (qs.reverse.map (·.2)) := by
  refine ⟨?_, by simp, fun i t st h1 h2 => S.at (hq _ (tupL_at h1 h2))⟩
  obtain ⟨o, ho, rfl⟩ := S.at ha
  exact ⟨k, ho⟩

section
variable {pr : Program} {loose : List Str} {mean : ExcName → Option Value} {mg mb : Str → Option Value} {d u : Nat}
theorem fn_law {w : World} {A : Around} {s : Shared} (hk : Ok A (d + 9) (u + 25)) (hK : (KF w).In s.heap) (T : Top pr loose mean mg mb s.heap) (hT : TabsAt lawT s.heap) (l : Addr) (vs : List Value) (ns : List Int) (hl : s.heap.IsList l vs.toArray) (av : AllP (ns.map vI) vs) (hz : vs.length ≤ 63)
    (hlaw : ∀ hd sts, GoodSteps sts → ∃ lx par ks ws0 M, LawOk hd sts lx par ks ws0 M) :
    codeAny (model pg w) A (.call (.ref 187) ⟨[.ref l], []⟩) (LawEnd s (vT true)) s := by
  refine fnCallG (d := d + 8) (u := u + 22) hk hK T hT (f := 187) (bn := "script") (bv := .ref l) rfl rfl rfl rfl (by decide +kernel) (fun n => by show [n].Nodup; simp) (fun L s₁ G T S => ?_)
  have hl := ghost_list hT hl
  have S : (CG w A 187 s L).St (bindL (envAtC w 187 L).kindOf [("script", .ref l)] fun _ => none) [(L + 1, oCell none), (86, fun o => o = tabObj #[])] s₁ := S
  refine s_tuple S (F := TreeRes) (PX.callF (f := 134) (Ps := [vIs (.ref l)]) G rfl (.cons (PE.loc (v := .ref l) rfl) .nil) (fun s₂ vs₂ gi S av₂ => ?_)) (fun v ext s₂ hv S => ?_)
  · cases av₂ with
    | cons p1 av₂ =>
      cases av₂
      have p1 : _ = Value.ref l := p1
      subst p1
      exact fn_tree (d := d + 6) (u := u + 16) G.ok gi S.tk l vs ns (let ⟨o, e, r⟩ := hl; ⟨o, S.fr.keep _ _ e, r⟩) av hz
  obtain ⟨hd, r1, a, qs, rfl, rfl, hg⟩ := hv
  obtain ⟨lx, par, ks, ws0, M, hw⟩ := hlaw hd _ hg
  refine as_tupO ["head", "steps"] S G.ok.handled (.inr (.head _)) (.cons (.cons .nil)) rfl (by kernel_rfl) (by kernel_rfl) (fun vs₃ s₃ av₃ S => ?_)
  cases av₃ with
  | cons p1 av₃ => cases av₃ with
    | cons p2 av₃ =>
  cases av₃
  obtain ⟨th, rfl⟩ := p1
  have p2 : _ = Value.ref a := p2
  subst p2
  refine s_tuple S (F := PageRes (pageOf hd (qs.reverse.map (·.2))) (wordsOf hd (qs.reverse.map (·.2)))) (PX.callF (f := 141) (Ps := [vI hd, vIs (.ref a)]) G rfl (.cons (PE.locI (t := th) rfl) (.cons (PE.loc (v := .ref a) rfl) .nil)) (fun s₂ vs₂ gi S av₂ => ?_)) (fun v ext s₂ hv S => ?_)
  · cases av₂ with
    | cons p1 av₂ => cases av₂ with
      | cons p2 av₂ =>
        cases av₂
        obtain ⟨t, rfl⟩ := p1
        have p2 : _ = Value.ref a := p2
        subst p2
        exact fn_page (d := d + 5) (u := u + 13) G.ok gi S.tk hd t a _ _ (stepsAt S (.tail _ (List.mem_append_left _ (List.mem_append_right _ (.head _)))) (fun e he => .tail _ (List.mem_append_left _ (List.mem_append_left _ he)))) hg
  obtain ⟨r2, wl, rfl, rfl⟩ := hv
  obtain ⟨sts, hsts⟩ : ∃ sts, sts = qs.reverse.map (·.2) := ⟨_, rfl⟩
  rw [← hsts] at hg hw S
  obtain ⟨ws, hwse⟩ : ∃ ws, ws = wordsOf hd sts := ⟨_, rfl⟩
  obtain ⟨pgt, hpgt⟩ : ∃ pgt, pgt = pageOf hd sts := ⟨_, rfl⟩
  rw [← hwse, ← hpgt] at S
  have hlxs := hw.lxs
  have hlx0 := hw.lx0
  have hlxe := hw.lxe
  have hstr := hw.str
  have hsm := hw.sm
  have hwords := hw.words
  have hpage := hw.page
  rw [← hpgt] at hlx0 hpage
  rw [← hwse] at hlxs hlxe hstr hsm hwords
  refine as_tupO ["page", "words"] S G.ok.handled (.inr (.head _)) (.cons (.cons .nil)) rfl (by kernel_rfl) (by kernel_rfl) (fun vs₃ s₃ av₃ S => ?_)
  cases av₃ with
  | cons p1 av₃ => cases av₃ with
    | cons p2 av₃ =>
  cases av₃
  obtain ⟨tp, rfl⟩ := p1
  have p2 : _ = Value.ref wl := p2
  subst p2
  have S := (S.perm (pmA _ _ _ _ _ _ _)).subl (List.sublist_append_left _ _)
  refine s_assignCellM (x := "lexer") (c := L + 1) (v₀ := none) S (ME.callK1 (f := 80) G rfl (by kernel_rfl) (ME.callF (f := 91) (Ps := [vS pgt]) G rfl (.cons (PE.locS (t := tp) rfl) .nil) (fun s₄ vs₄ S av₄ => ?_)
      (F := fun v nw' => ∃ x : Box, v = .ref x.b ∧ BoxOk w x ∧ nw' = boxL x pgt ++ ((86, fun o => ∃ ps, o = tabObj ps) :: (L + 1, oCell none) :: (wl, oL (ws.map vS)) :: (a, refsL (qs.reverse.map (·.1))) :: tupL qs))) (fun s₄ v nw₁ hF S => ?_))
    (F := fun v nw' => ∃ (bx : Box) (x dx : Addr) (t t2 : Tok) (pb : Addr), v = .ref x ∧ BoxOk w bx ∧ nw' = (x, fun o => o = instObj 80 dx) :: (dx, oA 4 (lexF 1 t (.ref bx.b) t2 pb)) :: (pb, oL []) :: (boxL bx pgt ++ ((86, fun o => ∃ ps, o = tabObj ps) :: (L + 1, oCell none) :: (wl, oL (ws.map vS)) :: (a, refsL (qs.reverse.map (·.1))) :: tupL qs))) (by kernel_rfl) (fun v nw₁ hF => ?_)
  · cases av₄ with
    | cons p1 av₄ =>
      cases av₄
      obtain ⟨tt, rfl⟩ := p1
      exact fn_stream (d := d + 5) (u := u + 11) G T S
  · obtain ⟨bx, rfl, hbx, rfl⟩ := hF
    refine codeAny_mono (call_lexer (d := d + 6) (u := u + 14) G S) fun r s' z => ?_
    obtain ⟨r, nw', rfl, ⟨x, dx, t, t2, pb, rfl, rfl⟩, S'⟩ := z
    exact ⟨_, _, rfl, ⟨bx, x, dx, t, t2, pb, rfl, hbx, rfl⟩, S'⟩
  obtain ⟨bx, x, dx, t, t2, pb, rfl, hbx, rfl⟩ := hF
  refine ⟨_, .tail (.tail (.tail (Ch.app (.tail .head) (boxL bx pgt)))), fun s₄ S => ?_⟩
  obtain ⟨ax, hax⟩ : ∃ ax : LexA, ax = ⟨x, dx, pb, bx.b, bx.db, bx.rd, bx.cc, bx.ct, bx.cp, bx.pl, t2, bx.tt, bx.rdO, pgt, bx.boxF, 4, 5⟩ := ⟨_, rfl⟩
  have ok : LexOk w ax := by subst hax; exact ⟨hbx.read, hbx.rdO, show 4 ≤ 800 by decide, hpage⟩
  have hap : ax.page = pgt := by subst hax; rfl
  have hat : LAt ax ⟨0, 1, t, []⟩ (lx 0) := ⟨by rw [hap, hlx0]; rfl, by simp⟩
  have S : (CG w A 187 s L).St (updL (updL (bindL (envAtC w 187 L).kindOf [("script", .ref l)] fun _ => none) ["head", "steps"] [.int hd th, .ref a]) ["page", "words"] [.str pgt tp, .ref wl]) (lexL ax ⟨0, 1, t, []⟩ ++ ((86, fun o => ∃ ps, o = tabObj ps) :: (L + 1, oCell (some (.ref ax.x))) :: (wl, oL (ws.map vS)) :: (a, refsL (qs.reverse.map (·.1))) :: tupL qs)) s₄ := by subst hax; exact S
  clear hax hbx
  -- pins
  obtain ⟨o, ho, vsw, kw, rfl, avw⟩ := S.at (List.mem_append_right (lexL ax ⟨0, 1, t, []⟩) (.tail _ (.tail _ (.head _))))
  have S := S.pin (O' := fun x => x = PySem.W.listOf vsw.toArray kw) (Ch.app (.tail (.tail .head)) (lexL ax ⟨0, 1, t, []⟩)) (fun o e _ => Option.some.inj (e.symm.trans ho))
  clear ho
  obtain ⟨o, ho, vsa, ka, rfl, ava⟩ := S.at (List.mem_append_right (lexL ax ⟨0, 1, t, []⟩) (.tail _ (.tail _ (.tail _ (.head _)))))
  have hva := allp_refs ava
  subst hva
  have S := S.pin (O' := fun x => x = PySem.W.listOf ((qs.reverse.map (·.1)).map Value.ref).toArray ka) (Ch.app (.tail (.tail (.tail .head))) (lexL ax ⟨0, 1, t, []⟩)) (fun o e _ => Option.some.inj (e.symm.trans ho))
  clear ho ava
  have hvw : vsw.length = ws.length := by rw [avw.length, List.length_map]
  have hwl3 := hwords.len
  have hn6 := hwords.num
  refine s_assignCompM (x := "word") (y := "read") (fixed := [(wl, fun x => x = PySem.W.listOf vsw.toArray kw)]) (cl := [("lexer", L + 1)]) (n := vsw.length) (P := fun i v => vsw[i]? = some v)
    (fun i nw₁ Ps => ∃ σ : LexS, σ.ws = [] ∧ LAt ax σ (lx i) ∧ Ps = (ws.take i).map vS ∧ nw₁ = lexL ax σ ++ ((86, fun o => ∃ ps, o = tabObj ps) :: (L + 1, oCell (some (.ref ax.x))) :: (wl, fun x => x = PySem.W.listOf vsw.toArray kw) :: (a, fun x => x = PySem.W.listOf ((qs.reverse.map (·.1)).map Value.ref).toArray ka) :: tupL qs)) S
    (PSrc.list (vs := vsw) (k := kw) G.ok.handled (PE.loc (v := .ref wl) rfl) (.inr (List.mem_append_right _ (.tail _ (.tail _ (.head _))))) (fun _ => .head _)) (by rw [sizeLine_eq]; omega) (by kernel_rfl) ⟨_, rfl, hat, rfl, rfl⟩
    (fun i nw₁ Ps hI x hx => by obtain ⟨σ, _, _, _, rfl⟩ := hI; rw [List.mem_singleton.mp hx]; exact List.mem_append_right _ (.tail _ (.tail _ (.head _))))
    (fun i v L' Y m' nw₁ Ps hi hv hI hm => ?_) (fun D nw₁ Ps s₅ hI S => ?_)
  · obtain ⟨σ, hσ, hat, rfl, rfl⟩ := hI
    have hx := List.getElem?_eq_getElem (show i < ws.length by omega)
    generalize ws[i] = wd at hx
    refine ME.method (x := ax.x) (dx := ax.dx) (c := 80) (n := ax.n) (f := lexF σ.ln σ.t (.ref ax.b) ax.t2 ax.pb) (fa := 70) (Ps := []) (Cx.comp_good G rfl) (PE.cell (c := L + 1) (v := .ref ax.x) (List.mem_append_right _ (List.mem_append_right _ (.tail _ (.head _)))) (by kernel_rfl)) (lexIns (X := Y)) .nil (by kernel_rfl) (by kernel_rfl) (by kernel_rfl) (by kernel_rfl) rfl (fun s₆ vs₆ S av₆ => ?_) (by kernel_rfl)
    cases av₆
    refine codeAny_mono (fn_token (d := d + 5) (u := u + 12) (X := Y) (Cx.comp_good G rfl) ok hat hσ S) fun r s' z => ?_
    obtain ⟨v', nw', rfl, ⟨htv, σ', hσ', hat', rfl⟩, S'⟩ := z
    rw [hlxs i wd hx] at htv hat'
    refine ⟨v', _, rfl, ⟨vS wd, _, rfl, htv, σ', hσ', hat', ?_, rfl⟩, S'⟩
    rw [List.take_add_one, hx, List.map_append]; rfl
  obtain ⟨σ, hσ, hat, rfl, rfl⟩ := hI
  rw [hvw, List.take_of_length_le (Nat.le_refl _)] at S
  rw [hvw] at hat
  have S := S.pin (O' := oL (ws.map vS)) (.tail (Ch.app (.tail (.tail .head)) (lexL ax σ))) (fun o _ e => ⟨vsw, kw, e, avw⟩)
  have S := S.perm List.perm_middle.symm
  obtain ⟨R, hR⟩ : ∃ R : Ld, R = (D, oL (ws.map vS)) :: (86, fun o => ∃ ps, o = tabObj ps) :: (L + 1, oCell (some (.ref ax.x))) :: (wl, oL (ws.map vS)) :: (a, fun x => x = PySem.W.listOf ((qs.reverse.map (·.1)).map Value.ref).toArray ka) :: tupL qs := ⟨_, rfl⟩
  rw [← hR] at S
  have hDR : (D, oL (ws.map vS)) ∈ R := by rw [hR]; exact .head _
  have hcR : (L + 1, oCell (some (.ref ax.x))) ∈ R := by rw [hR]; exact .tail _ (.tail _ (.head _))
  have hwR : (wl, oL (ws.map vS)) ∈ R := by rw [hR]; exact .tail _ (.tail _ (.tail _ (.head _)))
  have haR : (a, fun x => x = PySem.W.listOf ((qs.reverse.map (·.1)).map Value.ref).toArray ka) ∈ R := by rw [hR]; exact .tail _ (.tail _ (.tail _ (.tail _ (.head _))))
  have htR : ∀ e ∈ tupL qs, e ∈ R := fun e he => by rw [hR]; exact .tail _ (.tail _ (.tail _ (.tail _ (.tail _ he))))
  refine s_if S (PT.neLS (la := ws) G (PE.lss (PE.loc (v := .ref D) rfl) (List.mem_append_right _ hDR)) (PE.lss (PE.loc (v := .ref wl) rfl) (List.mem_append_right _ hwR)) hstr) (fun h => by cases h) (fun _ s₆ S => s_nil ?_)
  refine s_for (n := ks.length + 1) (P := fun i v => ∃ t, v = .int (0 + (i : Nat) * 3) t) (fixed := []) (fun i m₁ nw₁ => LwM hd th a pgt tp wl D m₁ ∧ nw₁ = lexL ax σ ++ R) S
    (PSrc.rangeOf G.ok.handled (lo := 0) (hi := ws.length) (st := 3) (by rw [hwl3]; exact (range03 hn6).1) (by rw [hwl3]; exact (range03 hn6).2) (range3 G rfl (by decide +kernel) PE.kI ((PE.lenL (Ps := ws.map vS) G rfl (by decide +kernel) (PE.loc (v := .ref D) rfl) (.inr (List.mem_append_right _ hDR)) (by rw [List.length_map]; omega)).imp fun v e => by rw [List.length_map] at e; exact e) PE.kI (by decide) (by decide)))
    ⟨⟨rfl, rfl, rfl, rfl, rfl⟩, rfl⟩ (fun _ _ _ _ x hx => nomatch hx) (fun i v I oI m₁ nw₁ s₇ hi hv hI S => ?_) (fun m₁ nw₁ s₇ hI S => ?_)
  · obtain ⟨hM, rfl⟩ := hI
    obtain ⟨tk, rfl⟩ := hv
    have hx := List.getElem?_eq_getElem (show 3 * i < ws.length by omega)
    generalize ws[3 * i] = wd at hx
    have hx2 := hsm i wd hx
    have hP : (ws.map vS)[(0 + (i : Int) * 3).toNat]? = some (vS wd) := by
      rw [show (0 + (i : Int) * 3).toNat = 3 * i by omega, List.getElem?_map, hx]; rfl
    refine as_name S (fun s₈ S => ?_)
    refine s_if S (PT.neS (c_cdata (d := d + 7) (u := u + 19) G (PE.idxL (i := 0 + (i : Int) * 3) (PE.loc (v := .ref D) (by exact hM.read)) (.inr (.tail _ (List.mem_append_right _ hDR))) (PE.locI (t := tk) rfl) (by omega) (by omega) hP) (by omega)) (c_text (d := d + 7) (u := u + 19) G (PE.idxL (i := 0 + (i : Int) * 3) (PE.loc (v := .ref D) (by exact hM.read)) (.inr (.tail _ (List.mem_append_right _ hDR))) (PE.locI (t := tk) rfl) (by omega) (by omega) hP) (by omega))) (fun h => by rw [bne_self_eq_false] at h; cases h) (fun _ s₉ S => s_nil ?_)
    refine s_if S (PT.neS (c_attrib (d := d + 7) (u := u + 19) G (PE.idxL (i := 0 + (i : Int) * 3) (PE.loc (v := .ref D) (by exact hM.read)) (.inr (.tail _ (List.mem_append_right _ hDR))) (PE.locI (t := tk) rfl) (by omega) (by omega) hP) (by omega)) (c_value (d := d + 7) (u := u + 19) G (PE.idxL (i := 0 + (i : Int) * 3) (PE.loc (v := .ref D) (by exact hM.read)) (.inr (.tail _ (List.mem_append_right _ hDR))) (PE.locI (t := tk) rfl) (by omega) (by omega) hP) (by omega))) (fun h => by rw [bne_self_eq_false] at h; cases h) (fun _ s₉ S => s_nil ?_)
    exact s_nil ⟨_, _, S, ⟨hM.head, hM.steps, hM.page, hM.words, hM.read⟩, rfl⟩
  obtain ⟨hM, rfl⟩ := hI
  have hlen : (qs.reverse.map (·.2)).length = sts.length := by rw [← hsts]
  have hlt : ((qs.reverse.map (·.1)).map Value.ref).length = sts.length := by rw [List.length_map, ← hlen]; simp
  have hnum := hw.num
  refine s_assignM S (ME.callX1 (f := 165) (F := pn (oL ((List.range (ks.length + 1)).map fun k => vI (M k k k)))) G rfl (by kernel_rfl)
      (ME.callPPM (f := 160) (Pa := vIs (.ref ax.x)) (Pb := vIs (.ref D)) G rfl (by kernel_rfl) (PE.cell (c := L + 1) (List.mem_append_right _ hcR) (by kernel_rfl)) (PE.loc (v := .ref D) hM.read)
        (ME.dictCompT (n := ((qs.reverse.map (·.1)).map Value.ref).length) (cl := []) (fixed := [(a, fun x => x = PySem.W.listOf ((qs.reverse.map (·.1)).map Value.ref).toArray ka)]) (fun i => ((i + 2 : Nat) : Int)) (fun i => vI (par (i + 2) : Nat))
          (PSrc.list (vs := (qs.reverse.map (·.1)).map Value.ref) (k := ka) G.ok.handled (PE.loc (v := .ref a) hM.steps) (.inr (List.mem_append_right _ haR)) (fun _ => .head _)) (by rw [sizeLine_eq, hlt]; have := hg.hi; omega) (by kernel_rfl)
          (fun x hx => by rw [List.mem_singleton.mp hx]; exact List.mem_append_right _ haR) (fun i v L' Y m' s₈ hi hv S => ?_))
        (fun s₈ va vb v nw₁ pa pb hF S => ?_)
        (F := fun v nw' => ∃ (P tb : Addr) (tr : Nat → Addr) (σ' : LexS), v = .ref tb ∧ σ'.ws = [] ∧ LAt ax σ' [] ∧
          nw' = (tb, oL ((List.range (ks.length + 1)).map fun i => vIs (.ref (tr i)))) :: (rowLd (ks.length + 1) tr (M 0) ++ (lexL ax σ' ++ ((P, oD (intKind pg w) sts.length (dcf (dcl (fun i => ((i + 2 : Nat) : Int)) (fun i => vI (par (i + 2) : Nat)) sts.length))) :: R)))))
      (fun s₈ v nw₁ hF S => ?_)
      (F' := fun v nw' => ∃ (mn P tb : Addr) (tr : Nat → Addr) (σ' : LexS), v = .ref mn ∧ σ'.ws = [] ∧ LAt ax σ' [] ∧
          nw' = (mn, oL ((List.range (ks.length + 1)).map fun k => vI (M k k k))) :: (tb, oL ((List.range (ks.length + 1)).map fun i => vIs (.ref (tr i)))) :: (rowLd (ks.length + 1) tr (M 0) ++ (lexL ax σ' ++ ((P, oD (intKind pg w) sts.length (dcf (dcl (fun i => ((i + 2 : Nat) : Int)) (fun i => vI (par (i + 2) : Nat)) sts.length))) :: R))))
      (fun v nw₁ v' ext hF he => ?_)) (fun v nw' s₈ hF S => ?_)
  · rw [hlt] at hi
    have hst := List.getElem?_eq_getElem hi
    generalize sts[i] = st at hst
    rw [List.getElem?_map] at hv
    cases htt : (qs.reverse.map (·.1))[i]? with
    | none => rw [htt] at hv; cases hv
    | some tt =>
    rw [htt] at hv
    have hv : v = .ref tt := (Option.some.inj hv).symm
    subst hv
    have hq := tupL_at htt (by rw [← hsts]; exact hst)
    refine as_tupO ["place", "parent", "mark", "draw"] S (Cx.comp_good G rfl).ok.handled (.inr (List.mem_append_right _ (List.mem_append_right _ (htR _ hq)))) (.cons (.cons (.cons (.cons .nil)))) rfl (by kernel_rfl) (by kernel_rfl) (fun vs s₉ av S => ?_)
    cases av with
    | cons p1 av => cases av with
      | cons p2 av => cases av with
        | cons p3 av => cases av with
          | cons p4 av =>
            cases av
            obtain ⟨u1, rfl⟩ := p1
            obtain ⟨u2, rfl⟩ := p2
            have e1 := (hg.ok i st hst).1
            have e2 := hw.hpar i st hst
            exact ⟨_, S, (PE.locI (t := u1) rfl).imp fun v e => by rw [show ((i + 2 : Nat) : Int) = st.place by omega]; exact e, (PE.locI (t := u2) rfl).imp fun v e => by rw [← e2]; exact e⟩
  · obtain ⟨P, rfl, rfl⟩ := hF
    have pa : va = Value.ref ax.x := pa
    have pb : vb = Value.ref D := pb
    subst pa pb
    rw [hlt] at S
    have S := S.perm List.perm_middle.symm
    refine codeAny_mono (fn_table (d := d) (u := u) (X := []) (n := ks.length + 1) (P := P) (rw := D) G ok hat hlxe hσ hwords rfl (.head _) (fun k h1 h2 => ?_) hw.parlt (.tail _ hDR) hw.walks S) fun r s' z => ?_
    · obtain ⟨i, rfl⟩ : ∃ i, k = i + 2 := ⟨k - 2, by omega⟩
      exact dcf_at (by omega)
    · obtain ⟨v', nw', rfl, ⟨tb, tr, σ', rfl, h1, h2, rfl⟩, S'⟩ := z
      exact ⟨_, _, rfl, ⟨P, tb, tr, σ', rfl, h1, h2, rfl⟩, S'⟩
  · obtain ⟨P, tb, tr, σ', rfl, h1, h2, rfl⟩ := hF
    exact fn_minors (d := d + 7) (u := u + 19) G.ok (S.gi G) S.tk tb _ tr M (tableAt S (.head _) (fun e he => .tail _ (List.mem_append_left _ he))) hw.bar (by have := hg.hi; omega)
  · obtain ⟨P, tb, tr, σ', rfl, h1, h2, rfl⟩ := hF
    obtain ⟨mn, rfl, rfl⟩ := he
    exact ⟨mn, P, tb, tr, σ', rfl, h1, h2, rfl⟩
  obtain ⟨mn, P, tb, tr, σ', rfl, hσ', hat', rfl⟩ := hF
  -- what is left of the ledger
  have S := S.subl (nw' := (mn, oL ((List.range (ks.length + 1)).map fun k => vI (M k k k))) :: (lexL ax σ' ++ R)) (.cons_cons _ (.cons _ ((List.Sublist.append (List.Sublist.refl _) (.cons _ (List.Sublist.refl R))).trans (List.sublist_append_right _ _))))
  have hmm : (List.range (ks.length + 1)).map (fun k => vI (M k k k)) = (dueSig hd sts).out.map vI := by rw [hw.due, List.map_map]; rfl
  rw [hmm] at S
  refine s_assignN S (PX.callF (f := 182) (Ps := [vI hd, vIs (.ref a)]) (F := pn (oL ((dueSig hd sts).out.map vI))) G rfl (.cons (PE.locI (t := th) hM.head) (.cons (PE.loc (v := .ref a) hM.steps) .nil)) (fun s₉ vs₉ gi S av₉ => ?_)) (fun du s₉ S => ?_)
  · cases av₉ with
    | cons p1 av₉ => cases av₉ with
      | cons p2 av₉ =>
        cases av₉
        obtain ⟨t, rfl⟩ := p1
        have p2 : _ = Value.ref a := p2
        subst p2
        have hS := stepsAt' S (.tail _ (List.mem_append_right _ haR)) (fun e he => .tail _ (List.mem_append_right _ (htR e he)))
        rw [← hsts] at hS
        exact fn_due (d := d + 6) (u := u + 16) G.ok gi S.tk hd t a _ sts hS hg.hi
  obtain ⟨la, hla⟩ : ∃ la, la = (dueSig hd sts).out := ⟨_, rfl⟩
  rw [← hla] at S
  have hll : la.length = ks.length + 1 := by rw [hla, hw.due]; simp
  have hlb : ∀ i ∈ la, i ≠ 0 ∧ i.natAbs < 2 ^ 64 := fun i hi => by
    rw [hla, hw.due] at hi
    obtain ⟨k, hk, rfl⟩ := List.mem_map.mp hi
    have hk := List.mem_range.mp hk
    have h1 := hw.bar.nz k hk
    have h2 := hw.bar.bd k k k (Nat.le_refl _) (Nat.le_refl _) hk hk
    exact ⟨h1, by omega⟩
  clear hmm
  obtain ⟨o, ho, vsd, kd, rfl, avd⟩ := S.at (.head _)
  have S := S.pin (O' := fun x => x = PySem.W.listOf vsd.toArray kd) .head (fun o e _ => Option.some.inj (e.symm.trans ho))
  clear ho
  obtain ⟨o, ho, vsm, km, rfl, avm⟩ := S.at (.tail _ (.head _))
  have S := S.pin (O' := fun x => x = PySem.W.listOf vsm.toArray km) (.tail .head) (fun o e _ => Option.some.inj (e.symm.trans ho))
  clear ho
  have hln : σ'.ln = 1 + ((cpsL pgt).count 10 : Nat) := by
    have h1 := hat'.ln
    have h2 := hat'.rem
    rw [hap] at h1 h2
    have h3 : (cpsL pgt).take σ'.pos = cpsL pgt := by
      rw [List.drop_eq_nil_iff] at h2
      exact List.take_of_length_le h2
    rw [h3] at h1; exact h1
  refine s_if S (PT.or2 (PT.neI ((PE.lex ax σ' [(du, fun x => x = PySem.W.listOf vsd.toArray kd), (mn, fun x => x = PySem.W.listOf vsm.toArray km)] R G (PE.cell (c := L + 1) (v := .ref ax.x) (List.mem_append_right _ (List.mem_append_right _ hcR)) (by kernel_rfl)) (v := .int σ'.ln σ'.t) rfl rfl (by kernel_rfl) (by kernel_rfl)).imp fun v e => ⟨σ'.t, e⟩) (PE.add (PE.kI (i := 1)) (PE.count (x := pgt) (c := 10) (PE.locS (t := tp) hM.page) (by decide +kernel) (by kernel_rfl))))
      (PT.neL G (PE.ls (la := la) (PE.loc (v := .ref mn) rfl) (.tail _ (.head _)) (fun o e => ⟨vsm, km, e, avm⟩)) (PE.ls (la := la) (PE.loc (v := .ref du) rfl) (.head _) (fun o e => ⟨vsd, kd, e, avd⟩)))) (fun h => by rw [hln] at h; simp at h) (fun _ s₁₀ S => s_nil ?_)
  have hrr : ∀ i i' v, vI i v → vI i' v → i = i' := by rintro x y v ⟨t, rfl⟩ ⟨t', e⟩; injection e
  refine s_ret S (PE.eqLY (la := la.map fun i => ap i.natAbs) G ?_ ?_) (fun v ext s₁₁ h S => ?_)
  · rw [List.map_map]
    refine PN.comp (items := la) (R := vI) (f := vY ∘ fun i : Int => ap i.natAbs) (cl := []) (PSrc.list (vs := vsm) (k := km) (fixed := [(mn, fun x => x = PySem.W.listOf vsm.toArray km)]) G.ok.handled (PE.loc (v := .ref mn) rfl) (.inr (.tail _ (.head _))) (fun _ => .head _)) (by rw [avm.length, List.length_map]) (by rw [avm.length, List.length_map, hll, sizeLine_eq]; omega) hrr
      (fun j v hj => ?_) (by kernel_rfl) (fun i L' v m' s₀ hi hv hm => ?_)
    · obtain ⟨P', hP', pv⟩ := avm.get' hj
      rw [List.getElem?_map] at hP'
      cases q : la[j]? with
      | none => rw [q] at hP'; cases hP'
      | some g => rw [q] at hP'; cases hP'; exact ⟨g, rfl, pv⟩
    · obtain ⟨ti, rfl⟩ := hv
      refine PX.callF (f := 42) (Ps := [vI i]) (Cx.comp_good G rfl) rfl (.cons (PE.locI (t := ti) hm) .nil) (fun s vs gi S av => ?_)
      cases av with
      | cons p1 av =>
        cases av
        obtain ⟨t, rfl⟩ := p1
        exact fn_ap (d := d + 7) (u := u + 19) (Cx.comp_good (L := L') (s₀ := s₀) G rfl).ok gi S.tk i (hlb i hi).2 t
  · rw [List.map_map]
    refine PN.comp (items := la) (R := vI) (f := vY ∘ fun i : Int => ap i.natAbs) (cl := []) (PSrc.list (vs := vsd) (k := kd) (fixed := [(du, fun x => x = PySem.W.listOf vsd.toArray kd)]) G.ok.handled (PE.loc (v := .ref du) rfl) (.inr (.head _)) (fun _ => .head _)) (by rw [avd.length, List.length_map]) (by rw [avd.length, List.length_map, hll, sizeLine_eq]; omega) hrr
      (fun j v hj => ?_) (by kernel_rfl) (fun i L' v m' s₀ hi hv hm => ?_)
    · obtain ⟨P', hP', pv⟩ := avd.get' hj
      rw [List.getElem?_map] at hP'
      cases q : la[j]? with
      | none => rw [q] at hP'; cases hP'
      | some g => rw [q] at hP'; cases hP'; exact ⟨g, rfl, pv⟩
    · obtain ⟨ti, rfl⟩ := hv
      have hia : (if i < 0 then -i else i) = (i.natAbs : Int) := by split <;> omega
      refine PX.callF (f := 108) (Ps := [vI (if i < 0 then -i else i)]) (Cx.comp_good G rfl) rfl (.cons (PE.abs (Cx.comp_good G rfl) rfl (by decide +kernel) (PE.locI (t := ti) hm)) .nil) (fun s vs gi S av => ?_)
      cases av with
      | cons p1 av =>
        cases av
        obtain ⟨t, rfl⟩ := p1
        rw [hia]
        have := hlb i hi
        exact fn_letters (d := d + 7) (u := u + 19) (Cx.comp_good (L := L') (s₀ := s₀) G rfl).ok gi S.tk i.natAbs (by omega) this.2 t
  · obtain ⟨h1, rfl⟩ := h
    have h1 : v = .bool true := h1
    subst h1
    have S : (CG w A 187 s L).St _ ((du, fun x => x = PySem.W.listOf vsd.toArray kd) :: (mn, fun x => x = PySem.W.listOf vsm.toArray km) :: (lexL ax σ' ++ R)) s₁₁ := S
    have S := S.subl (nw' := R) (.cons _ (.cons _ (List.sublist_append_right _ _)))
    rw [hR] at S
    exact ⟨_, _, _, rfl, rfl, S.subl (.cons _ (List.Sublist.refl _))⟩
end
end
end Mine

-- part F21
namespace Mine
noncomputable section
theorem allp_ints {vs : List Value} {ns : List Int} (h : IntsAre vs ns) : AllP (ns.map vI) vs := by
  induction h with
  | nil => exact .nil
  | cons n t _ ih => exact .cons ⟨t, rfl⟩ ih
theorem law_walk (hlaw : ∀ hd sts, GoodSteps sts → ∃ lx par ks ws0 M, LawOk hd sts lx par ks ws0 M) : WalkO vw [] (XL vw []) hk.says rowW lawDK.1 lawDK.2 fun f vs => PySem.call f vs := by
  intro w s₀ s₁ mg mb G Y fa o pm cd doc dV kV ho hd hcd hD hmg hg args vals as hpre hlay hrd hwl hlo
  have KX : (KF w).In s₁.heap := km_in_of Y
  have hT8 := km_tabs_of Y
  refine Ground.open G ?_
  intro T B D TE TW
  have hT : TabsAt lawT s₁.heap := List.forall_mem_cons.mpr ⟨⟨codeHd_of_K (c := 90) (P := 86) KX (by kernel_rfl), hT8 86 (.head _)⟩, fun _ h => nomatch h⟩
  have hfa : fa = 187 := by
    have h1 := mg_of KX T.g (n := "law") (v := .ref 187) (by kernel_rfl)
    have h2 : mg "law" = some (.ref fa) := hmg
    rw [h1] at h2; cases h2; rfl
  subst hfa
  clear hmg hd hcd hD ho
  wrow_args hpre hlay hrd hwl hlo
  rename_i ns _ _ _ _ _ _ _ l vs _ hL _ _ _ hI _ hz _
  have av : AllP (ns.map vI) vs := allp_ints hI
  have hlen : vs.length = ns.length := by rw [av.length, List.length_map]
  refine enter_call (kn_post hT (fun _ _ => rfl) ?_)
  refine codeAny_mono (fn_law (d := 0) (u := 0) ⟨by decide, by decide, rfl⟩ KX T hT l vs ns hL av (by omega) hlaw) fun r s' z => ?_
  obtain ⟨v, rfl, hv, hkeep, hgr, h, tk, rfl⟩ := z
  have hv : v = .bool true := hv
  subst hv
  exact ⟨⟨.inl ⟨_, _, _, rfl, fun _ => rfl, .bool true, by first | (with_unfolding_all rfl) | exact postW_of (by wrow_shape) (by wtm_val) (by str_meet; first | done | w_fin), unshared_nil⟩, hkeep, rfl, hg⟩, hgr, trivial⟩
end
end Mine

-- part P2
namespace Mine
noncomputable section

/-- f k + f (k+1) + .. , c of them -/
def sfr (f : Nat → Int) : Nat → Nat → Int
  | 0, _ => 0
  | c + 1, k => f k + sfr f c (k + 1)
theorem sfr_zero {f : Nat → Int} : ∀ {c k : Nat}, (∀ e, k ≤ e → f e = 0) → sfr f c k = 0
  | 0, _, _ => rfl
  | c + 1, k, h => by
    show f k + sfr f c (k + 1) = 0
    rw [h k (Nat.le_refl _), sfr_zero fun e he => h e (by omega)]; rfl
theorem sfr_bd {f : Nat → Int} {B : Nat} (h : ∀ e, (f e).natAbs ≤ B) : ∀ c k, (sfr f c k).natAbs ≤ c * B
  | 0, _ => by simp [sfr]
  | c + 1, k => by
    have h1 := Int.natAbs_add_le (f k) (sfr f c (k + 1))
    have h2 := sfr_bd h c (k + 1)
    have h3 := h k
    show (f k + sfr f c (k + 1)).natAbs ≤ _
    rw [Nat.succ_mul]; omega

section
variable (x : Int) (u d : Nat → Int) (a : Nat → Nat → Int) (m : Nat)
def dl : Nat → Int × Int
  | 0 => (x, 1)
  | k + 1 => (-(u k + d k) * (dl k).1 - u k * d k * (dl k).2, -(u k + d k) * (dl k).2)
def bU (k i : Nat) : Int := sfr (fun e => a i e * u e) (m - k) k
def bS (k i j : Nat) : Int := sfr (fun e => a i e * a j e * (u e + d e)) (m - k) k
def bR : Nat → Nat → Nat → Int
  | 0, i, j => x + bU u a m 0 i + bU d a m 0 j - bS u d a m 0 i j
  | k + 1, i, j => -(dl x u d k).1 * bS u d a m k i j - bU u a m k i * bU d a m k j * (dl x u d k).2
end

section
variable {x : Int} {u d : Nat → Int} {a : Nat → Nat → Int} {m : Nat}
theorem bU_succ {k i : Nat} (h : k < m) : bU u a m k i = a i k * u k + bU u a m (k + 1) i := by
  unfold bU; rw [show m - k = (m - (k + 1)) + 1 by omega]; rfl
theorem bS_succ {k i j : Nat} (h : k < m) : bS u d a m k i j = a i k * a j k * (u k + d k) + bS u d a m (k + 1) i j := by
  unfold bS; rw [show m - k = (m - (k + 1)) + 1 by omega]; rfl

structure TreeA (a : Nat → Nat → Int) : Prop where
  low : ∀ i e, i ≤ e → a i e = 0
  own : ∀ e, a (e + 1) e = 1
  bit : ∀ i e, a i e = 0 ∨ a i e = 1
theorem bU_own (A : TreeA a) {k i : Nat} (h : i ≤ k) : bU u a m k i = 0 := sfr_zero fun e he => by
  show a i e * u e = 0
  rw [A.low i e (by omega)]; exact Int.zero_mul _
theorem bS_own1 (A : TreeA a) {k i j : Nat} (h : i ≤ k) : bS u d a m k i j = 0 := sfr_zero fun e he => by
  show a i e * a j e * _ = 0
  rw [A.low i e (by omega), Int.zero_mul, Int.zero_mul]
theorem bS_own2 (A : TreeA a) {k i j : Nat} (h : j ≤ k) : bS u d a m k i j = 0 := sfr_zero fun e he => by
  show a i e * a j e * _ = 0
  rw [A.low j e (by omega), Int.mul_zero, Int.zero_mul]
theorem bR_diag (A : TreeA a) : ∀ k, k ≤ m → bR x u d a m k k k = (dl x u d k).1
  | 0, _ => by
    show x + bU u a m 0 0 + bU d a m 0 0 - bS u d a m 0 0 0 = x
    rw [bU_own A (Nat.le_refl _), bU_own A (Nat.le_refl _), bS_own1 A (Nat.le_refl _)]; omega
  | k + 1, h => by
    show -(dl x u d k).1 * bS u d a m k (k + 1) (k + 1) - bU u a m k (k + 1) * bU d a m k (k + 1) * (dl x u d k).2 = -(u k + d k) * (dl x u d k).1 - u k * d k * (dl x u d k).2
    rw [bU_succ h, bU_succ h, bS_succ h, bU_own A (Nat.le_refl _), bU_own A (Nat.le_refl _), bS_own1 A (Nat.le_refl _), A.own]
    grind
theorem bR_step (A : TreeA a) : ∀ k i j, k < i → k < j → i < m + 1 → j < m + 1 → bR x u d a m (k + 1) i j * (if k = 0 then 1 else bR x u d a m (k - 1) (k - 1) (k - 1)) = bR x u d a m k i j * bR x u d a m k k k - bR x u d a m k i k * bR x u d a m k k j
  | 0, i, j, h1, h2, h3, h4 => by
    rw [if_pos rfl]
    show (-x * bS u d a m 0 i j - bU u a m 0 i * bU d a m 0 j * 1) * 1 = (x + bU u a m 0 i + bU d a m 0 j - bS u d a m 0 i j) * (x + bU u a m 0 0 + bU d a m 0 0 - bS u d a m 0 0 0) - (x + bU u a m 0 i + bU d a m 0 0 - bS u d a m 0 i 0) * (x + bU u a m 0 0 + bU d a m 0 j - bS u d a m 0 0 j)
    rw [bU_own (u := u) A (Nat.le_refl 0), bU_own (u := d) A (Nat.le_refl 0), bS_own1 (j := 0) A (Nat.le_refl 0), bS_own2 (i := i) (j := 0) A (Nat.le_refl 0), bS_own1 (i := 0) (j := j) A (Nat.le_refl 0)]
    grind
  | k + 1, i, j, h1, h2, h3, h4 => by
    rw [if_neg (by omega), show k + 1 - 1 = k from rfl, bR_diag A k (by omega), bR_diag A (k + 1) (by omega)]
    have hk : k < m := by omega
    show (-(-(u k + d k) * (dl x u d k).1 - u k * d k * (dl x u d k).2) * bS u d a m (k + 1) i j - bU u a m (k + 1) i * bU d a m (k + 1) j * (-(u k + d k) * (dl x u d k).2)) * (dl x u d k).1
      = (-(dl x u d k).1 * bS u d a m k i j - bU u a m k i * bU d a m k j * (dl x u d k).2) * (-(u k + d k) * (dl x u d k).1 - u k * d k * (dl x u d k).2)
        - (-(dl x u d k).1 * bS u d a m k i (k + 1) - bU u a m k i * bU d a m k (k + 1) * (dl x u d k).2) * (-(dl x u d k).1 * bS u d a m k (k + 1) j - bU u a m k (k + 1) * bU d a m k j * (dl x u d k).2)
    rw [bU_succ (u := u) (i := i) hk, bU_succ (u := d) (i := j) hk, bU_succ (u := u) (i := k + 1) hk, bU_succ (u := d) (i := k + 1) hk, bS_succ (i := i) (j := j) hk, bS_succ (i := i) (j := k + 1) hk, bS_succ (i := k + 1) (j := j) hk,
      bU_own (u := u) (i := k + 1) A (Nat.le_refl _), bU_own (u := d) (i := k + 1) A (Nat.le_refl _), bS_own2 (i := i) (j := k + 1) A (Nat.le_refl _), bS_own1 (i := k + 1) (j := j) A (Nat.le_refl _), A.own]
    generalize (dl x u d k).1 = δ
    generalize (dl x u d k).2 = σ
    generalize bU u a m (k + 1) i = U
    generalize bU d a m (k + 1) j = D
    generalize bS u d a m (k + 1) i j = S
    generalize a i k = α
    generalize a j k = β
    generalize u k = p
    generalize d k = q
    grind
end
end
end Mine

-- part P3
namespace Mine
noncomputable section
section
variable {x : Int} {u d : Nat → Int} {a : Nat → Nat → Int} {m : Nat}
structure Small (x : Int) (u d : Nat → Int) : Prop where
  x1 : 1 ≤ x
  x2 : x ≤ 12
  u1 : ∀ e, 1 ≤ u e
  u2 : ∀ e, u e ≤ 12
  d1 : ∀ e, 1 ≤ d e
  d2 : ∀ e, d e ≤ 12
theorem dl_sign (P : Small x u d) : ∀ k, (0 < (dl x u d k).1 ∧ 0 < (dl x u d k).2) ∨ ((dl x u d k).1 < 0 ∧ (dl x u d k).2 < 0)
  | 0 => .inl ⟨by have := P.x1; show 0 < x; omega, by show (0 : Int) < 1; decide⟩
  | k + 1 => by
    have h1 := P.u1 k
    have h2 := P.d1 k
    have h3 : 0 < u k * d k := Int.mul_pos (by omega) (by omega)
    have h4 : 0 < u k + d k := by omega
    show (0 < -(u k + d k) * (dl x u d k).1 - u k * d k * (dl x u d k).2 ∧ 0 < -(u k + d k) * (dl x u d k).2) ∨ (-(u k + d k) * (dl x u d k).1 - u k * d k * (dl x u d k).2 < 0 ∧ -(u k + d k) * (dl x u d k).2 < 0)
    generalize u k * d k = p at *
    generalize u k + d k = q at *
    rcases dl_sign P k with ⟨a, b⟩ | ⟨a, b⟩
    · have e1 := Int.mul_pos h4 a
      have e2 := Int.mul_pos h3 b
      have e3 := Int.mul_pos h4 b
      exact .inr ⟨by rw [Int.neg_mul]; omega, by rw [Int.neg_mul]; omega⟩
    · have e1 := Int.mul_neg_of_pos_of_neg h4 a
      have e2 := Int.mul_neg_of_pos_of_neg h3 b
      have e3 := Int.mul_neg_of_pos_of_neg h4 b
      exact .inl ⟨by rw [Int.neg_mul]; omega, by rw [Int.neg_mul]; omega⟩
theorem abs_mul_le {p q : Int} {P Q : Nat} (h1 : p.natAbs ≤ P) (h2 : q.natAbs ≤ Q) : (p * q).natAbs ≤ P * Q := by
  rw [Int.natAbs_mul]; exact Nat.mul_le_mul h1 h2
theorem abs_sub_le {p q : Int} {P Q : Nat} (h1 : p.natAbs ≤ P) (h2 : q.natAbs ≤ Q) : (p - q).natAbs ≤ P + Q := by omega
theorem dl_bd (P : Small x u d) : ∀ k, (dl x u d k).1.natAbs ≤ 12 * 168 ^ k ∧ (dl x u d k).2.natAbs ≤ 12 * 168 ^ k
  | 0 => ⟨by have := P.x1; have := P.x2; show x.natAbs ≤ 12; omega, by show (1 : Int).natAbs ≤ 12; decide⟩
  | k + 1 => by
    have h1 := P.u1 k
    have h2 := P.d1 k
    have h3 := P.u2 k
    have h4 := P.d2 k
    obtain ⟨b1, b2⟩ := dl_bd P k
    have h5 : (u k * d k).natAbs ≤ 12 * 12 := abs_mul_le (by omega) (by omega)
    have h6 : (-(u k + d k)).natAbs ≤ 24 := by omega
    have e1 := abs_mul_le h6 b1
    have e2 := abs_mul_le h5 b2
    have e3 := abs_mul_le h6 b2
    have e4 := abs_sub_le e1 e2
    rw [Nat.pow_succ]
    exact ⟨by show (-(u k + d k) * (dl x u d k).1 - u k * d k * (dl x u d k).2).natAbs ≤ _; omega, by show (-(u k + d k) * (dl x u d k).2).natAbs ≤ _; omega⟩
theorem bU_bd (A : TreeA a) (hu : ∀ e, (u e).natAbs ≤ 12) (hm : m ≤ 5) (k i : Nat) : (bU u a m k i).natAbs ≤ 60 := by
  have := sfr_bd (f := fun e => a i e * u e) (B := 12) (fun e => by
    have := hu e
    rcases A.bit i e with h | h <;> simp [h]; omega) (m - k) k
  unfold bU
  have h2 : (m - k) * 12 ≤ 5 * 12 := Nat.mul_le_mul_right _ (by omega)
  omega
theorem bS_bd (A : TreeA a) (hu : ∀ e, (u e).natAbs ≤ 12) (hd : ∀ e, (d e).natAbs ≤ 12) (hm : m ≤ 5) (k i j : Nat) : (bS u d a m k i j).natAbs ≤ 120 := by
  have := sfr_bd (f := fun e => a i e * a j e * (u e + d e)) (B := 24) (fun e => by
    have := hu e
    have := hd e
    rcases A.bit i e with h | h <;> rcases A.bit j e with h' | h' <;> simp [h, h'] <;> omega) (m - k) k
  unfold bS
  have h2 : (m - k) * 24 ≤ 5 * 24 := Nat.mul_le_mul_right _ (by omega)
  omega
theorem bR_bd (A : TreeA a) (P : Small x u d) (hm : m ≤ 5) : ∀ k i j, k ≤ m → (bR x u d a m k i j).natAbs < 2 ^ 64
  | 0, i, j, _ => by
    have hu : ∀ e, (u e).natAbs ≤ 12 := fun e => by have := P.u1 e; have := P.u2 e; omega
    have hd : ∀ e, (d e).natAbs ≤ 12 := fun e => by have := P.d1 e; have := P.d2 e; omega
    have h1 := bU_bd A hu hm 0 i
    have h2 := bU_bd A hd hm 0 j
    have h3 := bS_bd A hu hd hm 0 i j
    have := P.x1
    have := P.x2
    show (x + bU u a m 0 i + bU d a m 0 j - bS u d a m 0 i j).natAbs < _
    omega
  | k + 1, i, j, hk => by
    have hu : ∀ e, (u e).natAbs ≤ 12 := fun e => by have := P.u1 e; have := P.u2 e; omega
    have hd : ∀ e, (d e).natAbs ≤ 12 := fun e => by have := P.d1 e; have := P.d2 e; omega
    obtain ⟨b1, b2⟩ := dl_bd P k
    have hp : 168 ^ k ≤ 168 ^ 5 := Nat.pow_le_pow_right (by decide) (by omega)
    have b1 : (-(dl x u d k).1).natAbs ≤ 12 * 168 ^ 5 := by omega
    have b2 : (dl x u d k).2.natAbs ≤ 12 * 168 ^ 5 := by omega
    have e1 := abs_mul_le b1 (bS_bd A hu hd hm k i j)
    have e2 := abs_mul_le (abs_mul_le (bU_bd A hu hm k i) (bU_bd A hd hm k j)) b2
    have e3 := abs_sub_le e1 e2
    show (-(dl x u d k).1 * bS u d a m k i j - bU u a m k i * bU d a m k j * (dl x u d k).2).natAbs < _
    refine Nat.lt_of_le_of_lt e3 (by decide)
theorem bar_ok (A : TreeA a) (P : Small x u d) (hm : m ≤ 5) : Bar (m + 1) (bR x u d a m) where
  nz := fun k hk => by
    rw [bR_diag A k (by omega)]
    rcases dl_sign P k with h | h <;> omega
  bd := fun k i j h1 h2 h3 h4 => by
    have := bR_bd A P hm k i j (by omega)
    omega
  step := bR_step A
end

/-- the sizes of the i-th step's mark -/
def uOf (sts : List Stp) (e : Nat) : Int := upOf (mark ((sts[e]?.map (·.draw)).getD 0))
def dOf (sts : List Stp) (e : Nat) : Int := downOf (mark ((sts[e]?.map (·.draw)).getD 0))
theorem mark_pos (d : Int) : 1 ≤ (cpsL (mark d)).length := by
  unfold mark cpsL
  rw [Str.cps_append]; simp [one1]
theorem tab_pos {t : List (Nat × List Nat)} (ht : ∀ p ∈ t, 1 ≤ p.2.length) (c : Nat) : 1 ≤ (tabOf t c).length := by
  unfold tabOf
  induction t with
  | nil => simp
  | cons p r ih =>
    obtain ⟨k, z⟩ := p
    rw [List.lookup_cons]
    cases h : c == k with
    | true => exact ht (k, z) (.head _)
    | false => exact ih fun p hp => ht p (.tail _ hp)
theorem flat_pos {f : Nat → List Nat} (hf : ∀ c, 1 ≤ (f c).length) {l : List Nat} (h : 1 ≤ l.length) : 1 ≤ (l.flatMap f).length := by
  cases l with
  | nil => simp at h
  | cons c r => rw [List.flatMap_cons, List.length_append]; have := hf c; omega
theorem len_cps (x : Str) : x.length = (cpsL x).length := by simp [Str.length]
theorem up_eq (x : Str) : upOf x = (((cpsL x).flatMap (tabOf tabT)).length : Nat) := by unfold upOf; rw [len_cps, asText_cps]
theorem down_eq (x : Str) : downOf x = (((cpsL x).flatMap (tabOf tabV)).length : Nat) := by unfold downOf; rw [len_cps, asValue_cps]
theorem up_pos (d : Int) : 1 ≤ upOf (mark d) := by
  rw [up_eq]
  have := flat_pos (f := tabOf tabT) (fun c => tab_pos (by decide) c) (mark_pos d)
  omega
theorem down_pos (d : Int) : 1 ≤ downOf (mark d) := by
  rw [down_eq]
  have := flat_pos (f := tabOf tabV) (fun c => tab_pos (by decide) c) (mark_pos d)
  omega
theorem cps_app (x y : Str) : cpsL (x ++ y) = cpsL x ++ cpsL y := by unfold cpsL; rw [Str.cps_append]; simp
theorem up_app (x y : Str) : upOf (x ++ y) = upOf x + upOf y := by
  rw [up_eq, up_eq, up_eq, cps_app, List.flatMap_append, List.length_append]; omega
theorem down_app (x y : Str) : downOf (x ++ y) = downOf x + downOf y := by
  rw [down_eq, down_eq, down_eq, cps_app, List.flatMap_append, List.length_append]; omega
theorem small_ok (hd : Int) (sts : List Stp) : Small (upOf (mark hd)) (uOf sts) (dOf sts) :=
  ⟨up_pos _, (up_bound _).2, fun e => up_pos _, fun e => (up_bound _).2, fun e => down_pos _, fun e => (down_bound _).2⟩

theorem due_ok (hd : Int) (sts : List Stp) : ∀ k, k ≤ sts.length →
    ∃ σ, dueSig hd (sts.take k) = σ ∧ σ.turned * (upOf (mark hd) * σ.product + σ.total) = (dl (upOf (mark hd)) (uOf sts) (dOf sts) k).1 ∧ σ.turned * σ.product = (dl (upOf (mark hd)) (uOf sts) (dOf sts) k).2 ∧
      σ.out = (List.range (k + 1)).map fun i => (dl (upOf (mark hd)) (uOf sts) (dOf sts) i).1
  | 0, _ => by
    refine ⟨_, rfl, ?_, ?_, rfl⟩
    · show 1 * (upOf (mark hd) * 1 + 0) = upOf (mark hd); omega
    · rfl
  | k + 1, h => by
    obtain ⟨σ, h1, h2, h3, h4⟩ := due_ok hd sts k (by omega)
    have hs := List.getElem?_eq_getElem (show k < sts.length by omega)
    generalize sts[k] = st at hs
    have hu : uOf sts k = upOf (mark st.draw) := by unfold uOf; rw [hs]; rfl
    have hd' : dOf sts k = downOf (mark st.draw) := by unfold dOf; rw [hs]; rfl
    have ht : dueSig hd (sts.take (k + 1)) = dueStep (upOf (mark hd)) σ st := by
      rw [List.take_add_one, hs, ← h1]; unfold dueSig; rw [List.foldl_append]; rfl
    have hx : -σ.turned * (upOf (mark hd) * (σ.product * (upOf (mark st.draw) + downOf (mark st.draw))) + (σ.total * (upOf (mark st.draw) + downOf (mark st.draw)) + upOf (mark st.draw) * downOf (mark st.draw) * σ.product)) = (dl (upOf (mark hd)) (uOf sts) (dOf sts) (k + 1)).1 := by
      show _ = -(uOf sts k + dOf sts k) * (dl (upOf (mark hd)) (uOf sts) (dOf sts) k).1 - uOf sts k * dOf sts k * (dl (upOf (mark hd)) (uOf sts) (dOf sts) k).2
      rw [← h2, ← h3, hu, hd']
      generalize upOf (mark hd) = x
      generalize upOf (mark st.draw) = p
      generalize downOf (mark st.draw) = q
      grind
    refine ⟨_, ht, hx, ?_, ?_⟩
    · show -σ.turned * (σ.product * (upOf (mark st.draw) + downOf (mark st.draw))) = -(uOf sts k + dOf sts k) * (dl (upOf (mark hd)) (uOf sts) (dOf sts) k).2
      rw [← h3, hu, hd']
      grind
    · show σ.out ++ [_] = _
      rw [h4, List.range_succ (n := k + 1), List.map_append, hx]; rfl
theorem due_is {a : Nat → Nat → Int} (hd : Int) (sts : List Stp) (A : TreeA a) : (dueSig hd sts).out = (List.range (sts.length + 1)).map fun k => bR (upOf (mark hd)) (uOf sts) (dOf sts) a sts.length k k k := by
  obtain ⟨σ, h1, _, _, h4⟩ := due_ok hd sts sts.length (Nat.le_refl _)
  rw [List.take_length] at h1
  rw [h1, h4]
  refine List.map_congr_left fun k hk => ?_
  rw [bR_diag A k (by have := List.mem_range.mp hk; omega)]
end
end Mine

-- part P4
namespace Mine
noncomputable section

/-- the place above, from the list of them -/
def parL (P : List Nat) (k : Nat) : Nat := P.getD (k - 2) 0
/-- is the e-th step on the way from p to the top? -/
def onW (par : Nat → Nat) : Nat → Nat → Nat → Bool
  | 0, _, _ => false
  | f + 1, p, e => if p < 2 then false else p == e + 2 || onW par f (par p) e
abbrev onP (P : List Nat) (i e : Nat) : Bool := onW (parL P) 6 (i + 1) e
def aOf (P : List Nat) (i e : Nat) : Int := if onP P i e then 1 else 0
def GoodP (P : List Nat) : Prop := ∀ (i p : Nat), P[i]? = some p → 1 ≤ p ∧ p ≤ i + 1
theorem parL_lt {P : List Nat} (h : GoodP P) {k : Nat} (hk : 2 ≤ k) : parL P k < k := by
  unfold parL
  cases q : P[k - 2]? with
  | none => rw [List.getD_eq_getElem?_getD, q]; show 0 < k; omega
  | some p =>
    have := h _ _ q
    rw [List.getD_eq_getElem?_getD, q]; show p < k; omega
theorem parL_pos {P : List Nat} (h : GoodP P) {k : Nat} (hk : 2 ≤ k) (hn : k ≤ P.length + 1) : 1 ≤ parL P k := by
  unfold parL
  have q := List.getElem?_eq_getElem (show k - 2 < P.length by omega)
  have := h _ _ q
  rw [List.getD_eq_getElem?_getD, q]; exact this.1
theorem onW_low {par : Nat → Nat} (h : ∀ k, 2 ≤ k → par k < k) : ∀ f p e, p < e + 2 → onW par f p e = false
  | 0, _, _, _ => rfl
  | f + 1, p, e, hp => by
    unfold onW
    by_cases h2 : p < 2
    · rw [if_pos h2]
    · rw [if_neg h2, onW_low h f (par p) e (by have := h p (by omega); omega), Bool.or_false]
      exact beq_false_of_ne (by omega)
theorem treeA {P : List Nat} (h : GoodP P) : TreeA (aOf P) where
  low := fun i e hi => by unfold aOf onP; rw [onW_low (fun k hk => parL_lt h hk) 6 (i + 1) e (by omega)]; rfl
  own := fun e => by
    unfold aOf onP onW
    rw [if_neg (by omega : ¬ e + 1 + 1 < 2)]
    simp
  bit := fun i e => by unfold aOf; split <;> simp

/-- the walk, of steps by their numbers -/
structure SLk where
  child : Nat
  parent : Nat
  edge : Nat
abbrev SWy := List (Nat × List Nat × List Nat)
def sget : SWy → Nat → Option (List Nat × List Nat)
  | [], _ => none
  | e :: r, k => if k = e.1 then some e.2 else sget r k
def sLink (here : Nat) (c d : List Nat) (σ : SWy × List Nat) (lk : SLk) : SWy × List Nat :=
  if lk.parent = here ∧ (sget σ.1 lk.child).isNone then ((lk.child, c, d ++ [lk.edge]) :: σ.1, σ.2 ++ [lk.child])
  else if lk.child = here ∧ (sget σ.1 lk.parent).isNone then ((lk.parent, c ++ [lk.edge], d) :: σ.1, σ.2 ++ [lk.parent]) else σ
structure SBs where
  order : List Nat
  ways : SWy
  queue : List Nat
def sCd (b : SBs) (h : Nat) : List Nat × List Nat := (sget b.ways h).getD ([], [])
def sStep (links : List SLk) (b : SBs) : SBs := match b.queue with
  | [] => b
  | h :: q => ⟨b.order ++ [h], (links.foldl (sLink h (sCd b h).1 (sCd b h).2) (b.ways, q)).1, (links.foldl (sLink h (sCd b h).1 (sCd b h).2) (b.ways, q)).2⟩
def sRun (links : List SLk) : Nat → SBs → SBs
  | 0, b => b
  | n + 1, b => sRun links n (sStep links b)
def sInit (start : Nat) : SBs := ⟨[], [(start, [], [])], [start]⟩

section
variable (μ : Nat → Str)
def itp (l : List Nat) : Str := l.foldl (fun s e => s ++ μ e) ⟨#[]⟩
def wMap (W : SWy) : Wy := W.map fun e => (e.1, itp μ e.2.1, itp μ e.2.2)
def lMap (l : SLk) : Lk := ⟨l.child, l.parent, μ l.edge⟩
def bMap (b : SBs) : Bs := ⟨b.order, wMap μ b.ways, b.queue⟩
variable {μ}
theorem itp_snoc {l : List Nat} {e : Nat} : itp μ (l ++ [e]) = itp μ l ++ μ e := by unfold itp; rw [List.foldl_append]; rfl
theorem wget_map : ∀ {W : SWy} {k : Nat}, wget (wMap μ W) k = (sget W k).map fun x => (itp μ x.1, itp μ x.2)
  | [], _ => rfl
  | e :: r, k => by
    show wget ((e.1, itp μ e.2.1, itp μ e.2.2) :: wMap μ r) k = _
    unfold wget sget
    by_cases h : k = e.1
    · rw [if_pos h, if_pos h]; rfl
    · rw [if_neg h, if_neg h]; exact wget_map
theorem wnone {W : SWy} {k : Nat} : (wget (wMap μ W) k).isNone = (sget W k).isNone := by rw [wget_map]; cases sget W k <;> rfl
theorem link_map {h : Nat} {c d : List Nat} {W : SWy} {q : List Nat} {l : SLk} : bLink h (itp μ c) (itp μ d) (wMap μ W, q) (lMap μ l) = (wMap μ (sLink h c d (W, q) l).1, (sLink h c d (W, q) l).2) := by
  unfold bLink sLink
  show (if l.parent = h ∧ (wget (wMap μ W) l.child).isNone then _ else if l.child = h ∧ (wget (wMap μ W) l.parent).isNone then _ else _) = _
  rw [wnone, wnone]
  by_cases h1 : l.parent = h ∧ (sget W l.child).isNone
  · rw [if_pos h1, if_pos h1]
    show ((l.child, itp μ c, itp μ d ++ μ l.edge) :: wMap μ W, q ++ [l.child]) = _
    rw [← itp_snoc]; rfl
  · rw [if_neg h1, if_neg h1]
    by_cases h2 : l.child = h ∧ (sget W l.parent).isNone
    · rw [if_pos h2, if_pos h2]
      show ((l.parent, itp μ c ++ μ l.edge, itp μ d) :: wMap μ W, q ++ [l.parent]) = _
      rw [← itp_snoc]; rfl
    · rw [if_neg h2, if_neg h2]
theorem fold_map {h : Nat} {c d : List Nat} : ∀ {ls : List SLk} {W : SWy} {q : List Nat}, (ls.map (lMap μ)).foldl (bLink h (itp μ c) (itp μ d)) (wMap μ W, q) = (wMap μ (ls.foldl (sLink h c d) (W, q)).1, (ls.foldl (sLink h c d) (W, q)).2)
  | [], _, _ => rfl
  | l :: r, W, q => by
    rw [List.map_cons, List.foldl_cons, List.foldl_cons, link_map, fold_map]
theorem cd_map {b : SBs} {h : Nat} : bCd (bMap μ b) h = (itp μ (sCd b h).1, itp μ (sCd b h).2) := by
  unfold bCd sCd
  show (wget (wMap μ b.ways) h).getD _ = _
  rw [wget_map]
  cases sget b.ways h <;> rfl
theorem step_map {ls : List SLk} {b : SBs} : bStep (ls.map (lMap μ)) (bMap μ b) = bMap μ (sStep ls b) := by
  obtain ⟨o, W, q⟩ := b
  cases q with
  | nil => rfl
  | cons h q =>
    show (⟨o ++ [h], ((ls.map (lMap μ)).foldl (bLink h (bCd (bMap μ ⟨o, W, h :: q⟩) h).1 (bCd (bMap μ ⟨o, W, h :: q⟩) h).2) (wMap μ W, q)).1, ((ls.map (lMap μ)).foldl (bLink h (bCd (bMap μ ⟨o, W, h :: q⟩) h).1 (bCd (bMap μ ⟨o, W, h :: q⟩) h).2) (wMap μ W, q)).2⟩ : Bs) = _
    rw [cd_map]
    dsimp only
    rw [fold_map]; rfl
theorem run_map {ls : List SLk} : ∀ {n : Nat} {b : SBs}, bRun (ls.map (lMap μ)) n (bMap μ b) = bMap μ (sRun ls n b)
  | 0, _ => rfl
  | n + 1, b => by
    show bRun _ n (bStep _ _) = _
    rw [step_map, run_map]; rfl
theorem init_map {k : Nat} : bInit k = bMap μ (sInit k) := rfl
end

def sks (P : List Nat) : List SLk := P.zipIdx.map fun q => ⟨q.2 + 2, q.1, q.2⟩
def wayS (P : List Nat) (i j : Nat) : List Nat × List Nat := (((List.range P.length).filter fun e => onP P i e && !onP P j e).reverse, (List.range P.length).filter fun e => !onP P i e && onP P j e)
def chk (P : List Nat) : Bool := (List.range (P.length + 1)).all fun i =>
  let b := sRun (sks P) 10 (sInit (i + 1))
  b.queue == [] && b.order.isPerm ((List.range (P.length + 1)).map (· + 1)) && decide ((b.order.map fun g => hopsN (parL P) (i + 1 + g) (i + 1) g).Pairwise (· ≤ ·)) &&
    (List.range (P.length + 1)).all fun j => sget b.ways (j + 1) == some (wayS P i j)
def shapes : Nat → List (List Nat)
  | 0 => [[]]
  | m + 1 => (shapes m).flatMap fun P => (List.range (m + 1)).map fun p => P ++ [p + 1]
theorem mem_shapes : ∀ {m : Nat} {P : List Nat}, P.length = m → GoodP P → P ∈ shapes m
  | 0, P, h, _ => by rw [List.length_eq_zero_iff.mp h]; exact .head _
  | m + 1, P, h, g => by
    have hne : P ≠ [] := fun e => by rw [e] at h; cases h
    have hs := List.dropLast_concat_getLast hne
    refine List.mem_flatMap.mpr ⟨P.dropLast, mem_shapes (by rw [List.length_dropLast]; omega) (fun i p hi => g i p ?_), ?_⟩
    · rw [← hs]
      have : i < P.dropLast.length := (List.getElem?_eq_some_iff.mp hi).1
      rw [List.getElem?_append_left this]; exact hi
    · have := g m (P.getLast hne) (by rw [List.getLast_eq_getElem, List.getElem?_eq_getElem (show m < P.length by omega)]; simp [h])
      refine List.mem_map.mpr ⟨P.getLast hne - 1, List.mem_range.mpr (by omega), ?_⟩
      rw [show P.getLast hne - 1 + 1 = P.getLast hne by omega]; exact hs
theorem chk3 : ((shapes 3).all chk) = true := by decide +kernel
theorem chk4 : ((shapes 4).all chk) = true := by decide +kernel
theorem chk5a : (((shapes 5).take 30).all chk) = true := by decide +kernel
theorem chk5b : ((((shapes 5).drop 30).take 30).all chk) = true := by decide +kernel
theorem chk5c : ((((shapes 5).drop 60).take 30).all chk) = true := by decide +kernel
theorem chk5d : (((shapes 5).drop 90).all chk) = true := by decide +kernel
theorem all_cut {l : List (List Nat)} {k n : Nat} (h1 : (((l.drop k).take n).all chk) = true) (h2 : ((l.drop (k + n)).all chk) = true) : ((l.drop k).all chk) = true := by
  rw [← List.take_append_drop n (l.drop k), List.all_append, h1, List.drop_drop, h2]; rfl
theorem chk5 : ((shapes 5).all chk) = true := all_cut (k := 0) (n := 30) chk5a (all_cut (n := 30) chk5b (all_cut (n := 30) chk5c chk5d))
theorem chk_ok {P : List Nat} (h1 : 3 ≤ P.length) (h2 : P.length ≤ 5) (g : GoodP P) : chk P = true := by
  have hm := mem_shapes rfl g
  have : P.length = 3 ∨ P.length = 4 ∨ P.length = 5 := by omega
  rcases this with h | h | h <;> rw [h] at hm
  · exact List.all_eq_true.mp chk3 P hm
  · exact List.all_eq_true.mp chk4 P hm
  · exact List.all_eq_true.mp chk5 P hm
end
end Mine

-- part P5
namespace Mine
noncomputable section
theorem sum_rev (f : Nat → Int) : ∀ l : List Nat, (l.reverse.map f).sum = (l.map f).sum
  | [] => rfl
  | a :: l => by
    have := sum_rev f l
    simp only [List.reverse_cons, List.map_append, List.sum_append, List.map_cons, List.map_nil, List.sum_cons, List.sum_nil]
    omega
theorem up_itp {μ : Nat → Str} (l : List Nat) : upOf (itp μ l) = (l.map fun e => upOf (μ e)).sum := by
  have : ∀ (l : List Nat) (s : Str), upOf (l.foldl (fun s e => s ++ μ e) s) = upOf s + (l.map fun e => upOf (μ e)).sum := by
    intro l
    induction l with
    | nil => intro s; simp
    | cons e r ih => intro s; rw [List.foldl_cons, ih, up_app, List.map_cons, List.sum_cons]; omega
  unfold itp; rw [this, show upOf (⟨#[]⟩ : Str) = 0 from by rw [up_eq]; rfl]; omega
theorem down_itp {μ : Nat → Str} (l : List Nat) : downOf (itp μ l) = (l.map fun e => downOf (μ e)).sum := by
  have : ∀ (l : List Nat) (s : Str), downOf (l.foldl (fun s e => s ++ μ e) s) = downOf s + (l.map fun e => downOf (μ e)).sum := by
    intro l
    induction l with
    | nil => intro s; simp
    | cons e r ih => intro s; rw [List.foldl_cons, ih, down_app, List.map_cons, List.sum_cons]; omega
  unfold itp; rw [this, show downOf (⟨#[]⟩ : Str) = 0 from by rw [down_eq]; rfl]; omega
theorem itp_len {μ : Nat → Str} (hμ : ∀ e, (μ e).length ≤ 2) (l : List Nat) : (itp μ l).length ≤ 2 * l.length := by
  have : ∀ (l : List Nat) (s : Str), (l.foldl (fun s e => s ++ μ e) s).length ≤ s.length + 2 * l.length := by
    intro l
    induction l with
    | nil => intro s; simp
    | cons e r ih => intro s; have := ih (s ++ μ e); have := hμ e; rw [List.foldl_cons, List.length_cons]; rw [len_cat] at *; omega
  have := this l ⟨#[]⟩
  have e : (⟨#[]⟩ : Str).length = 0 := rfl
  unfold itp; omega

theorem way_sum {P : List Nat} {u d : Nat → Int} (i j : Nat) : ∀ c k,
    (((List.range' k c).filter fun e => onP P i e && !onP P j e).map u).sum + (((List.range' k c).filter fun e => !onP P i e && onP P j e).map d).sum = sfr (fun e => aOf P i e * u e) c k + sfr (fun e => aOf P j e * d e) c k - sfr (fun e => aOf P i e * aOf P j e * (u e + d e)) c k
  | 0, _ => rfl
  | c + 1, k => by
    have ih := way_sum (P := P) (u := u) (d := d) i j c (k + 1)
    rw [List.range'_succ, List.filter_cons, List.filter_cons]
    show _ = (aOf P i k * u k + sfr (fun e => aOf P i e * u e) c (k + 1)) + (aOf P j k * d k + sfr (fun e => aOf P j e * d e) c (k + 1)) - (aOf P i k * aOf P j k * (u k + d k) + sfr (fun e => aOf P i e * aOf P j e * (u e + d e)) c (k + 1))
    generalize sfr (fun e => aOf P i e * u e) c (k + 1) = A at *
    generalize sfr (fun e => aOf P j e * d e) c (k + 1) = B at *
    generalize sfr (fun e => aOf P i e * aOf P j e * (u e + d e)) c (k + 1) = D at *
    unfold aOf
    cases onP P i k <;> cases onP P j k <;> simp <;> omega

def muOf (sts : List Stp) (e : Nat) : Str := mark ((sts[e]?.map (·.draw)).getD 0)
theorem walks_ok (hd : Int) (sts : List Stp) {P : List Nat} (hP : P.length = sts.length) (h1 : 3 ≤ P.length) (h2 : P.length ≤ 5) (g : GoodP P) :
    WalksOk (P.length + 1) (parL P) ((sks P).map (lMap (muOf sts))) (mark hd) (bR (upOf (mark hd)) (uOf sts) (dOf sts) (aOf P) P.length 0) := by
  have hc := List.all_eq_true.mp (chk_ok h1 h2 g)
  have hq : ∀ i, i < P.length + 1 → (sRun (sks P) 10 (sInit (i + 1))).queue = [] ∧ (sRun (sks P) 10 (sInit (i + 1))).order.Perm ((List.range (P.length + 1)).map (· + 1)) ∧ ((sRun (sks P) 10 (sInit (i + 1))).order.map fun g => hopsN (parL P) (i + 1 + g) (i + 1) g).Pairwise (· ≤ ·) ∧
      ∀ j, j < P.length + 1 → sget (sRun (sks P) 10 (sInit (i + 1))).ways (j + 1) = some (wayS P i j) := fun i hi => by
    have := hc i (List.mem_range.mpr hi)
    simp only [Bool.and_eq_true, decide_eq_true_eq, beq_iff_eq, List.isPerm_iff, List.all_eq_true, List.mem_range] at this
    exact ⟨this.1.1.1, this.1.1.2, this.1.2, this.2⟩
  have hr : ∀ i, bRun ((sks P).map (lMap (muOf sts))) 10 (bInit (i + 1)) = bMap (muOf sts) (sRun (sks P) 10 (sInit (i + 1))) := fun i => by rw [init_map (μ := muOf sts), run_map]
  refine ⟨fun i hi => by rw [hr]; exact (hq i hi).1, fun i hi => by rw [hr]; exact (hq i hi).2.1, fun i hi => ?_, fun i j hi hj => ?_⟩
  · rw [hr]
    have h := (hq i hi).2.2.1
    rw [List.pairwise_map] at h ⊢
    exact h.imp fun h => by omega
  · have h := (hq i hi).2.2.2 j hj
    have hμ : ∀ e, (muOf sts e).length ≤ 2 := fun e => mark_len _
    have f1 : (wayS P i j).1.length ≤ 5 := by
      unfold wayS
      have := List.length_filter_le (fun e => onP P i e && !onP P j e) (List.range P.length)
      simp only [List.length_reverse, List.length_range] at *; omega
    have f2 : (wayS P i j).2.length ≤ 5 := by
      unfold wayS
      have := List.length_filter_le (fun e => !onP P i e && onP P j e) (List.range P.length)
      simp only [List.length_range] at *; omega
    have l1 := itp_len hμ (wayS P i j).1
    have l2 := itp_len hμ (wayS P i j).2
    refine ⟨itp (muOf sts) (wayS P i j).1, itp (muOf sts) (wayS P i j).2, ?_, by omega, by omega, ?_⟩
    · rw [hr]
      show wget (wMap (muOf sts) _) _ = _
      rw [wget_map, h]; rfl
    · have e : ((asText (mark hd ++ itp (muOf sts) (wayS P i j).1) ++ asValue (itp (muOf sts) (wayS P i j).2)).length : Int) = upOf (mark hd ++ itp (muOf sts) (wayS P i j).1) + downOf (itp (muOf sts) (wayS P i j).2) := by
        unfold upOf downOf; rw [len_cat]; omega
      rw [e, up_app, up_itp, down_itp]
      unfold wayS
      rw [sum_rev, List.range_eq_range']
      have hs := way_sum (P := P) (u := uOf sts) (d := dOf sts) i j P.length 0
      show _ = upOf (mark hd) + bU (uOf sts) (aOf P) P.length 0 i + bU (dOf sts) (aOf P) P.length 0 j - bS (uOf sts) (dOf sts) (aOf P) P.length 0 i j
      unfold bU bS
      rw [Nat.sub_zero]
      change upOf (mark hd) + (List.map (uOf sts) _).sum + (List.map (dOf sts) _).sum = _
      dsimp only at hs ⊢
      omega
end
end Mine

-- part P6
namespace Mine
noncomputable section

abbrev White (p : List Nat) : Prop := ∀ c ∈ p, c ∈ cpsL wsp
theorem lexT_white : ∀ {p t : List Nat}, White p → lexT (p ++ t) = lexT t
  | [], _, _ => rfl
  | c :: p, t, h => by
    rw [List.cons_append, lexT.eq_def]
    dsimp only
    rw [if_pos (h c (.head _))]
    exact lexT_white fun c hc => h c (.tail _ hc)
/-- a piece of the page, and the word it is read as -/
def Seg (z x : List Nat) : Prop := ∀ p t, White p → ∃ p', White p' ∧ lexT (p ++ (z ++ t)) = (x, p' ++ t)
inductive Segs : List Nat → List (List Nat) → Prop
  | nil : Segs [] []
  | cons {z y x xs} : Seg z x → Segs y xs → Segs (z ++ y) (x :: xs)
theorem Segs.app {z y : List Nat} {xs ys : List (List Nat)} (h : Segs z xs) (h' : Segs y ys) : Segs (z ++ y) (xs ++ ys) := by
  induction h with
  | nil => exact h'
  | cons s _ ih => rw [List.append_assoc]; exact .cons s ih
theorem Segs.run {z : List Nat} {xs : List (List Nat)} (h : Segs z xs) : ∀ p, White p → ∃ lx : Nat → List Nat, lx 0 = p ++ z ∧ (∀ i x, xs[i]? = some x → lexT (lx i) = (x, lx (i + 1))) ∧ lexT (lx xs.length) = ([], []) := by
  induction h with
  | nil =>
    intro p hp
    refine ⟨fun _ => p, by simp, fun i x h => (by cases h), ?_⟩
    have := lexT_white (t := []) hp
    rw [List.append_nil] at this
    rw [this, lexT.eq_def]
  | cons s _ ih =>
    intro p hp
    rename_i z y x xs _
    obtain ⟨p', hp', e⟩ := s p y hp
    obtain ⟨lx, h0, h1, h2⟩ := ih p' hp'
    refine ⟨fun i => match i with | 0 => p ++ (z ++ y) | i + 1 => lx i, rfl, fun i w hw => ?_, h2⟩
    cases i with
    | zero =>
      have hw : some x = some w := hw
      cases hw
      show lexT (p ++ (z ++ y)) = (x, lx 0)
      rw [e, h0]
    | succ i => exact h1 i w hw

theorem seg_name {n : Nat} (h : n ≤ 15) : Seg [65 + n, 32] [65 + n] := fun p t hp => by
  refine ⟨[], (fun _ h => nomatch h), ?_⟩
  rw [lexT_white hp]
  show lexT ((65 + n) :: 32 :: t) = _
  have h1 : ∀ n : Fin 16, (65 + n.val) ∉ cpsL wsp := by decide +kernel
  rw [lexT.eq_def]
  dsimp only
  rw [if_neg (h1 ⟨n, by omega⟩), if_neg (by omega), if_neg (by omega), bare_end (by decide +kernel)]
  rfl
theorem quot_esc_all {wh : Nat} {t : List Nat} : ∀ (l acc : List Nat), quot acc (flat1 34 [92, 34] (flat1 92 [92, 92] l) ++ 34 :: t) = (acc ++ l, t)
  | [], acc => by
    show quot acc (34 :: t) = _
    rw [quot_end rfl, List.append_nil]
  | c :: l, acc => by
    have e : flat1 34 [92, 34] (flat1 92 [92, 92] (c :: l)) = flat1 34 [92, 34] (if c = 92 then [92, 92] else [c]) ++ flat1 34 [92, 34] (flat1 92 [92, 92] l) := by
      rw [← flat1_app]; rfl
    rw [e, List.append_assoc]
    have ih := quot_esc_all (wh := wh) (t := t) l (acc ++ [c])
    rw [List.append_assoc] at ih
    by_cases h1 : c = 92
    · subst h1
      rw [if_pos rfl]
      show quot acc (92 :: 92 :: _) = _
      rw [quot_esc (by decide) rfl]
      exact ih
    · rw [if_neg h1]
      by_cases h2 : c = 34
      · subst h2
        show quot acc (92 :: 34 :: _) = _
        rw [quot_esc (by decide) rfl]
        exact ih
      · have e2 : flat1 34 [92, 34] [c] = [c] := flat1_free (by simp; omega)
        rw [e2]
        show quot acc (c :: _) = _
        rw [quot_on h2 h1]
        exact ih
theorem bare_esc_all {wh : Nat} {t : List Nat} (hw : wh ∈ cpsL wsp) : ∀ (l acc : List Nat), bare acc (l.flatMap (fun c => [92, c]) ++ wh :: t) = (acc ++ l, t)
  | [], acc => by
    show bare acc (wh :: t) = _
    rw [bare_end hw, List.append_nil]
  | c :: l, acc => by
    show bare acc (92 :: c :: (l.flatMap (fun c => [92, c]) ++ wh :: t)) = _
    rw [bare_esc (by decide +kernel) rfl]
    have := bare_esc_all (t := t) hw l (acc ++ [c])
    rw [List.append_assoc] at this
    exact this
theorem seg_quot {l : List Nat} {wh : Nat} (hw : wh ∈ cpsL wsp) : Seg (34 :: (flat1 34 [92, 34] (flat1 92 [92, 92] l) ++ [34, wh])) l := fun p t hp => by
  refine ⟨[wh], fun c hc => by rw [List.mem_singleton.mp hc]; exact hw, ?_⟩
  rw [lexT_white hp, List.cons_append, List.append_assoc, lexT.eq_def]
  dsimp only
  rw [if_neg (by decide +kernel), if_pos rfl]
  show quot [] (_ ++ 34 :: (wh :: t)) = _
  rw [quot_esc_all (wh := wh)]; rfl
theorem seg_bare {l : List Nat} {wh : Nat} (hl : 1 ≤ l.length) (hw : wh ∈ cpsL wsp) : Seg (l.flatMap (fun c => [92, c]) ++ [wh]) l := fun p t hp => by
  refine ⟨[], (fun _ h => nomatch h), ?_⟩
  cases l with
  | nil => simp at hl
  | cons c l =>
    rw [lexT_white hp, List.append_assoc]
    show lexT (92 :: c :: (l.flatMap (fun c => [92, c]) ++ wh :: t)) = _
    rw [lexT.eq_def]
    dsimp only
    rw [if_neg (by decide +kernel), if_neg (by decide), if_pos rfl]
    show bare [c] (l.flatMap (fun c => [92, c]) ++ wh :: t) = _
    rw [bare_esc_all hw]; rfl
theorem seg_spelled (d : Int) : Seg (cpsL (spelled (mark d) d)) (cpsL (mark d)) := by
  have hw : (Str.ofString " \n\t\r").cps.getD ((d.fdiv 264).fmod 4).toNat 0 ∈ cpsL wsp := by
    have h0 := fmod_lt' (i := d.fdiv 264) (n := 4) (by decide)
    generalize (d.fdiv 264).fmod 4 = k at h0
    have : ∀ n : Fin 4, (Str.ofString " \n\t\r").cps.getD n.val 0 ∈ cpsL wsp := by decide +kernel
    exact this ⟨k.toNat, by omega⟩
  generalize hwh : (Str.ofString " \n\t\r").cps.getD ((d.fdiv 264).fmod 4).toNat 0 = wh at hw
  unfold spelled
  rw [hwh, cps_app]
  by_cases hq : ((d.fdiv 132).fmod 2 == 0) = true
  · rw [if_pos hq, cps_app, cps_app]
    have e1 : Str.ofString "\\" = ⟨#[92]⟩ := by decide +kernel
    have e2 : Str.ofString "\"" = ⟨#[34]⟩ := by decide +kernel
    have e3 : cpsL (Str.ofString "\\\\") = [92, 92] := by decide +kernel
    have e4 : cpsL (Str.ofString "\\\"") = [92, 34] := by decide +kernel
    rw [e1, e2, replace_flat, replace_flat, e3, e4]
    have := seg_quot (l := cpsL (mark d)) hw
    show Seg ([34] ++ _ ++ [34] ++ [wh]) _
    rw [show ([34] ++ flat1 34 [92, 34] (flat1 92 [92, 92] (cpsL (mark d))) ++ [34] ++ [wh] : List Nat) = 34 :: (flat1 34 [92, 34] (flat1 92 [92, 92] (cpsL (mark d))) ++ [34, wh]) by simp]
    exact this
  · rw [if_neg hq]
    have e1 : cpsL (Str.ofString "\\") = [92] := by decide +kernel
    have e : cpsL (Txt.join (Str.ofString "") ((mark d).cps.toList.map fun c => Str.ofString "\\" ++ one1 c)) = (cpsL (mark d)).flatMap fun c => [92, c] := by
      rw [join_flatMap, List.flatMap_map]
      refine congrArg (fun f => (cpsL (mark d)).flatMap f) (funext fun c => ?_)
      show cpsL (_ ++ _) = _
      rw [cps_app, e1]; rfl
    rw [e]
    exact seg_bare (mark_pos d) hw

theorem seg_step {st : Stp} (h1 : 1 ≤ st.place ∧ st.place ≤ 15) (h2 : 1 ≤ st.parent ∧ st.parent ≤ 15) : Segs (cpsL (stepText st)) ((stepWords st).map cpsL) := by
  unfold stepText
  have e32 : cpsL (Str.ofString " ") = [32] := by decide +kernel
  rw [cps_app, cps_app, cps_app, cps_app, e32, nameOf_eq (by omega), nameOf_eq (by omega)]
  have s1 := seg_name (n := st.place.toNat) (by omega)
  have s2 := seg_name (n := st.parent.toNat) (by omega)
  have s := Segs.cons s1 (.cons s2 (.cons (seg_spelled st.draw) .nil))
  unfold stepWords
  have e1 : (65 + st.place).toNat = 65 + st.place.toNat := by omega
  have e2 : (65 + st.parent).toNat = 65 + st.parent.toNat := by omega
  rw [e1, e2]
  rw [List.append_nil] at s
  rw [show cpsL (one1 (65 + st.place.toNat)) ++ [32] ++ cpsL (one1 (65 + st.parent.toNat)) ++ [32] ++ cpsL (spelled (mark st.draw) st.draw) = [65 + st.place.toNat, 32] ++ ([65 + st.parent.toNat, 32] ++ cpsL (spelled (mark st.draw) st.draw)) by simp [one1, cpsL]]
  exact s
theorem seg_fold : ∀ (sts : List Stp) (x : Str) (xs : List Str), (∀ st ∈ sts, (1 ≤ st.place ∧ st.place ≤ 15) ∧ (1 ≤ st.parent ∧ st.parent ≤ 15)) → Segs (cpsL x) (xs.map cpsL) → Segs (cpsL (sts.foldl (fun pg st => pg ++ stepText st) x)) ((xs ++ sts.flatMap stepWords).map cpsL)
  | [], x, xs, _, h => by simpa using h
  | st :: r, x, xs, hb, h => by
    have hs := hb st (.head _)
    have := seg_fold r (x ++ stepText st) (xs ++ stepWords st) (fun s hs => hb s (.tail _ hs)) (by rw [cps_app, List.map_append]; exact h.app (seg_step hs.1 hs.2))
    rw [List.foldl_cons, List.flatMap_cons, ← List.append_assoc]
    exact this
theorem seg_page {hd : Int} {sts : List Stp} (hb : ∀ st ∈ sts, (1 ≤ st.place ∧ st.place ≤ 15) ∧ (1 ≤ st.parent ∧ st.parent ≤ 15)) : Segs (cpsL (pageOf hd sts)) ((wordsOf hd sts).map cpsL) := by
  have h : Segs (cpsL (spelled (mark hd) hd)) ([mark hd].map cpsL) := by
    have := Segs.cons (seg_spelled hd) .nil
    rw [List.append_nil] at this
    exact this
  exact seg_fold sts _ [mark hd] hb h
theorem mark_ok (d : Int) : PyData.strOk (mark d) = true := by
  unfold mark
  have h0 := fmod_lt' (i := d) (n := 11) (by decide)
  have h1 := fmod_lt' (i := d.fdiv 11) (n := 12) (by decide)
  generalize d.fmod 11 = p at h0
  generalize (d.fdiv 11).fmod 12 = q at h1
  obtain ⟨p, rfl⟩ := Int.eq_ofNat_of_zero_le h0.1
  obtain ⟨q, rfl⟩ := Int.eq_ofNat_of_zero_le h1.1
  have : ∀ (p : Fin 11) (q : Fin 12), PyData.strOk (one1 (signs.cps.getD ((p.val : Nat) : Int).toNat 0) ++ Txt.slice signs (some ((q.val : Nat) : Int)) (some (((q.val : Nat) : Int) + 1))) = true := by decide +kernel
  exact this ⟨p, by omega⟩ ⟨q, by omega⟩
end
end Mine

-- part P7
namespace Mine
noncomputable section
def parP (sts : List Stp) : List Nat := sts.map fun st => st.parent.toNat
theorem goodP {sts : List Stp} (hg : GoodSteps sts) : GoodP (parP sts) := fun i p h => by
  unfold parP at h
  rw [List.getElem?_map] at h
  cases q : sts[i]? with
  | none => rw [q] at h; cases h
  | some st =>
    rw [q] at h
    cases h
    have := hg.ok i st q
    show 1 ≤ st.parent.toNat ∧ st.parent.toNat ≤ i + 1
    omega
theorem flat3 : ∀ (sts : List Stp) (i c : Nat) (st : Stp), sts[i]? = some st → c < 3 → (sts.flatMap stepWords)[3 * i + c]? = (stepWords st)[c]?
  | [], i, c, st, h, _ => by cases h
  | s :: r, 0, c, st, h, hc => by
    have h : some s = some st := h
    cases h
    rw [List.flatMap_cons, Nat.mul_zero, Nat.zero_add, List.getElem?_append_left (by show c < 3; exact hc)]
  | s :: r, i + 1, c, st, h, hc => by
    have ih := flat3 r i c st h hc
    rw [List.flatMap_cons, List.getElem?_append_right (by show 3 ≤ _; omega)]
    rw [show 3 * (i + 1) + c - (stepWords s).length = 3 * i + c by show _ - 3 = _; omega]
    exact ih
theorem flat3_len : ∀ l : List Stp, (l.flatMap stepWords).length = 3 * l.length
  | [] => rfl
  | a :: r => by rw [List.flatMap_cons, List.length_append, flat3_len r, List.length_cons]; show 3 + _ = _; omega
abbrev ksOf (sts : List Stp) : List Lk := (sks (parP sts)).map (lMap (muOf sts))
theorem ksOf_len (sts : List Stp) : (ksOf sts).length = sts.length := by simp [ksOf, sks, parP]
theorem ksOf_at {sts : List Stp} {i : Nat} {k : Lk} (h : (ksOf sts)[i]? = some k) : ∃ st, sts[i]? = some st ∧ k = ⟨i + 2, st.parent.toNat, mark st.draw⟩ := by
  unfold ksOf sks parP at h
  rw [List.getElem?_map, List.getElem?_map, List.getElem?_zipIdx, List.getElem?_map] at h
  cases q : sts[i]? with
  | none => rw [q] at h; cases h
  | some st =>
    rw [q] at h
    have h : some (lMap (muOf sts) ⟨0 + i + 2, st.parent.toNat, 0 + i⟩) = some k := h
    refine ⟨st, rfl, ?_⟩
    have h := (Option.some.inj h).symm
    rw [h]
    unfold lMap muOf
    simp only [Nat.zero_add, q]; rfl
theorem words_ok (hd : Int) {sts : List Stp} (hg : GoodSteps sts) : WordsOk (wordsOf hd sts) (mark hd) (ksOf sts) where
  len := by rw [ksOf_len]; unfold wordsOf; rw [List.length_cons, flat3_len]
  head := rfl
  child := fun i k h => by
    obtain ⟨st, hs, rfl⟩ := ksOf_at h
    have e := flat3 sts i 0 st hs (by decide)
    unfold wordsOf
    rw [Nat.add_zero] at e
    rw [show 1 + 3 * i = 3 * i + 1 by omega, List.getElem?_cons_succ, e]
    have := (hg.ok i st hs).1
    show some (⟨#[(65 + st.place).toNat]⟩ : Str) = some ⟨#[65 + (i + 2)]⟩
    rw [show (65 + st.place).toNat = 65 + (i + 2) by omega]
  parent := fun i k h => by
    obtain ⟨st, hs, rfl⟩ := ksOf_at h
    have e := flat3 sts i 1 st hs (by decide)
    unfold wordsOf
    rw [show 1 + 3 * i + 1 = (3 * i + 1) + 1 by omega, List.getElem?_cons_succ, e]
    have := hg.ok i st hs
    show some (⟨#[(65 + st.parent).toNat]⟩ : Str) = some ⟨#[65 + st.parent.toNat]⟩
    rw [show (65 + st.parent).toNat = 65 + st.parent.toNat by omega]
  mark := fun i k h => by
    obtain ⟨st, hs, rfl⟩ := ksOf_at h
    have e := flat3 sts i 2 st hs (by decide)
    unfold wordsOf
    rw [show 1 + 3 * i + 2 = (3 * i + 2) + 1 by omega, List.getElem?_cons_succ, e]; rfl
  rng := fun k hk => by
    obtain ⟨i, hi⟩ := List.getElem?_of_mem hk
    obtain ⟨st, hs, rfl⟩ := ksOf_at hi
    have h1 := hg.ok i st hs
    have h2 := (List.getElem?_eq_some_iff.mp hs).1
    have h3 := hg.hi
    exact ⟨⟨by show 1 ≤ i + 2; omega, by show i + 2 ≤ 15; omega⟩, ⟨by show 1 ≤ st.parent.toNat; omega, by show st.parent.toNat ≤ 15; omega⟩, mark_len _⟩
  num := by rw [ksOf_len]; have := hg.hi; omega
  h2 := mark_len hd
theorem law_plain (hd : Int) (sts : List Stp) (hg : GoodSteps sts) : ∃ lx par ks ws0 M, LawOk hd sts lx par ks ws0 M := by
  have hb : ∀ st ∈ sts, (1 ≤ st.place ∧ st.place ≤ 15) ∧ (1 ≤ st.parent ∧ st.parent ≤ 15) := fun st hm => by
    obtain ⟨i, hi⟩ := List.getElem?_of_mem hm
    have h1 := hg.ok i st hi
    have h2 := (List.getElem?_eq_some_iff.mp hi).1
    have h3 := hg.hi
    omega
  obtain ⟨lx, h0, h1, h2⟩ := (seg_page (hd := hd) hb).run [] (fun _ h => nomatch h)
  have hP : (parP sts).length = sts.length := by simp [parP]
  have hlo := hg.lo
  have hhi := hg.hi
  have hG := goodP hg
  have hw : ∀ x ∈ wordsOf hd sts, PyData.strOk x = true ∧ x.length ≤ 2 := fun x hx => by
    have tiny : ∀ n : Nat, n ≤ 80 → PyData.strOk (⟨#[n]⟩ : Str) = true := by
      have : ∀ n : Fin 81, PyData.strOk (⟨#[n.val]⟩ : Str) = true := by decide +kernel
      exact fun n h => this ⟨n, by omega⟩
    rcases List.mem_cons.mp hx with rfl | hx
    · exact ⟨mark_ok hd, mark_len hd⟩
    · obtain ⟨st, hs, hx⟩ := List.mem_flatMap.mp hx
      have := hb st hs
      unfold stepWords at hx
      rcases List.mem_cons.mp hx with rfl | hx
      · exact ⟨tiny _ (by omega), by show 1 ≤ 2; decide⟩
      rcases List.mem_cons.mp hx with rfl | hx
      · exact ⟨tiny _ (by omega), by show 1 ≤ 2; decide⟩
      rw [List.mem_singleton.mp hx]
      exact ⟨mark_ok _, mark_len _⟩
  refine ⟨lx, parL (parP sts), ksOf sts, mark hd, bR (upOf (mark hd)) (uOf sts) (dOf sts) (aOf (parP sts)) sts.length, ?_⟩
  have hk := ksOf_len sts
  refine ⟨?_, by rw [h0]; rfl, fun i x hx => ?_, ?_, fun x hx => (hw x hx).1, fun i x hx => (hw x (List.mem_of_getElem? hx)).2, words_ok hd hg, hk, fun i st hs => ?_, fun k h3 h4 => ?_, ?_, ?_, ?_⟩
  · have h3 := fold_len (f := stepText) (k := 80) sts (spelled (mark hd) hd) (fun st hm => by have := hb st hm; exact stepText_len (by omega) (by omega))
    have h4 := spelled_len (mark_len hd) hd
    unfold pageOf; omega
  · exact h1 i (cpsL x) (by rw [List.getElem?_map, hx]; rfl)
  · rw [List.length_map] at h2; exact h2
  · have h3 := hg.ok i st hs
    unfold parL parP
    rw [show i + 2 - 2 = i from rfl, List.getD_eq_getElem?_getD, List.getElem?_map, hs]
    show st.parent = (st.parent.toNat : Int)
    omega
  · exact ⟨parL_pos hG h3 (by omega), parL_lt hG h3⟩
  · have := walks_ok hd sts hP (by omega) (by omega) hG
    rw [hP] at this
    rw [hk]; exact this
  · rw [hk]; exact bar_ok (treeA hG) (small_ok hd sts) hhi
  · rw [hk]; exact due_is hd sts (treeA hG)
end
end Mine

theorem PySem.Challenge.cw_wn0043_01_holds : PySem.Challenge.rw_wn0043_01.Holds :=
  Mine.hd (Mine.law_walk Mine.law_plain)
