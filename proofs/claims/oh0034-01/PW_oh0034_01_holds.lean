import PyProof.Rows.All
import Wide.All
import OpenK.AllK
import Wide.FinOn
import PySem.Challenge.RW_oh0034_01
open PySem PySem.W PyProof.Rows PySem.Calls
set_option Elab.async false
set_option maxRecDepth 100000
set_option maxHeartbeats 8000000
namespace Mine
noncomputable def fn (i : Nat) (m : Str) (k : Nat) (c : Addr) : Obj := ⟨.type "function", none, match PySem.Challenge.pw_oh0034_01.main.body[i]? with
  | some (.FunctionDef name args body _ _ _ scope _ _ _) => .func { name := name, qualname := name, params := args, body := .stmts body, scope := scope, globals := 3, closure := [], defaults := .none, kwdefaults := .none, pyModule := .str m k, code := .ref c }
  | _ => .plain, #[]⟩
noncomputable def co (n : Str) (t t1 t2 : Nat) (l a f : Int) (r : Addr) (z : Value) (r1 : Addr) (v v1 : Value) (r2 : Addr) (u : Int) (u1 : Nat) : Obj := ⟨.type "code", none, .fields #[.str n t, .str n t1, .str (Str.ofString "/claim/cut.py") t2, .int l 0, .int a 0, .int 0 0, .int 0 0, .int f 0, .ref r, .bool true, z, .ref r1, .none, v, v1, .ref r2, .int u 0, .int l 0, .str (Str.ofString "/claim/cut.py") u1], #[]⟩
noncomputable def tu (l : List Value) : Obj := ⟨.type "tuple", none, .seq l.toArray, #[]⟩
noncomputable def tp (i : Int) (k : Nat) (c : Str) (t : Nat) : Obj := tu [.int i k, .str c t]
noncomputable def en (P : Params) (n : Str) (k : Nat) (v : Value) : DictEntry := ⟨PyData.keyHash P n, .str n k, v⟩
/-- the text's objects, short -/
noncomputable def Kc (P : Params) : Frag := [
  (3, ⟨.type "dict", none, .dict #[en P (Str.ofString "__name__") 165 (.str (Str.ofString "law_oh0034_01") 353), en P (Str.ofString "__doc__") 166 (.none), en P (Str.ofString "__package__") 167 (.none), en P (Str.ofString "__loader__") 168 (.builtin "__main__.__loader__#opaque"), en P (Str.ofString "__spec__") 169 (.none), en P (Str.ofString "__annotations__") 170 (.ref 6), en P (Str.ofString "__builtins__") 171 (.ref 4), en P (Str.ofString "__file__") 173 (.str (Str.ofString "/claim/cut.py") 172), en P (Str.ofString "__cached__") 174 (.none), en P (Str.ofString "_raise_serialization_error") 195 (.ref 21), en P (Str.ofString "_escape_cdata") 202 (.ref 28), en P (Str.ofString "_escape_attrib") 209 (.ref 35), en P (Str.ofString "_escape_attrib_html") 216 (.ref 42), en P (Str.ofString "_escape_attrib_c14n") 223 (.ref 49), en P (Str.ofString "S_IFMT") 232 (.ref 56), en P (Str.ofString "S_IFDIR") 234 (.int 16384 233), en P (Str.ofString "S_IFCHR") 236 (.int 8192 235), en P (Str.ofString "S_IFBLK") 238 (.int 24576 237), en P (Str.ofString "S_IFREG") 240 (.int 32768 239), en P (Str.ofString "S_IFIFO") 242 (.int 4096 241), en P (Str.ofString "S_IFLNK") 244 (.int 40960 243), en P (Str.ofString "S_IFSOCK") 246 (.int 49152 245), en P (Str.ofString "S_ISUID") 248 (.int 2048 247), en P (Str.ofString "S_ISGID") 250 (.int 1024 249), en P (Str.ofString "S_ISVTX") 252 (.int 512 251), en P (Str.ofString "S_IRUSR") 254 (.int 256 253), en P (Str.ofString "S_IWUSR") 256 (.int 128 255), en P (Str.ofString "S_IXUSR") 258 (.int 64 257), en P (Str.ofString "S_IRGRP") 260 (.int 32 259), en P (Str.ofString "S_IWGRP") 262 (.int 16 261), en P (Str.ofString "S_IXGRP") 264 (.int 8 263), en P (Str.ofString "S_IROTH") 266 (.int 4 265), en P (Str.ofString "S_IWOTH") 268 (.int 2 267), en P (Str.ofString "S_IXOTH") 270 (.int 1 269), en P (Str.ofString "_filemode_table") 296 (.ref 89), en P (Str.ofString "filemode") 308 (.ref 96), en P (Str.ofString "heappush") 318 (.ref 103), en P (Str.ofString "heappop") 327 (.ref 110), en P (Str.ofString "_siftdown") 339 (.ref 117), en P (Str.ofString "_siftup") 352 (.ref 124), en P (Str.ofString "_law_made") 363 (.ref 131), en P (Str.ofString "_law_run") 376 (.ref 138), en P (Str.ofString "_law_spelled") 386 (.ref 145), en P (Str.ofString "_law_due") 392 (.ref 150), en P (Str.ofString "law") 398 (.ref 155)] 45, #[]⟩),
  (27, co (Str.ofString "_escape_cdata") 196 197 198 4 1 3 22 (.int 181 0) 23 (.ref 24) (.ref 25) 26 200 201),
  (28, fn 2 (Str.ofString "cpy313.xml.etree.ElementTree") 187 27),
  (34, co (Str.ofString "_escape_attrib") 203 204 205 15 1 3 29 (.int 181 0) 30 (.ref 31) (.ref 32) 33 207 208),
  (35, fn 3 (Str.ofString "cpy313.xml.etree.ElementTree") 187 34),
  (41, co (Str.ofString "_escape_attrib_html") 210 211 212 34 1 3 36 (.int 181 0) 37 (.ref 38) (.ref 39) 40 214 215),
  (42, fn 4 (Str.ofString "cpy313.xml.etree.ElementTree") 187 41),
  (48, co (Str.ofString "_escape_attrib_c14n") 217 218 219 45 1 3 43 (.int 181 0) 44 (.ref 45) (.ref 46) 47 221 222),
  (49, fn 5 (Str.ofString "cpy313.xml.etree.ElementTree") 187 48),
  (55, co (Str.ofString "S_IFMT") 226 227 228 63 1 3 50 (.int 181 0) 51 (.ref 52) (.ref 53) 54 230 231),
  (56, fn 7 (Str.ofString "cpy313.stat") 224 55),
  (57, tp 40960 243 (Str.ofString "l") 271),
  (58, tp 49152 245 (Str.ofString "s") 272),
  (59, tp 32768 239 (Str.ofString "-") 273),
  (60, tp 24576 237 (Str.ofString "b") 274),
  (61, tp 16384 233 (Str.ofString "d") 275),
  (62, tp 8192 235 (Str.ofString "c") 276),
  (63, tp 4096 241 (Str.ofString "p") 277),
  (64, tu [.ref 57, .ref 58, .ref 59, .ref 60, .ref 61, .ref 62, .ref 63]),
  (65, tp 256 253 (Str.ofString "r") 278),
  (66, tu [.ref 65]),
  (67, tp 128 255 (Str.ofString "w") 279),
  (68, tu [.ref 67]),
  (69, tp 2112 280 (Str.ofString "s") 281),
  (70, tp 2048 247 (Str.ofString "S") 282),
  (71, tp 64 257 (Str.ofString "x") 283),
  (72, tu [.ref 69, .ref 70, .ref 71]),
  (73, tp 32 259 (Str.ofString "r") 284),
  (74, tu [.ref 73]),
  (75, tp 16 261 (Str.ofString "w") 285),
  (76, tu [.ref 75]),
  (77, tp 1032 286 (Str.ofString "s") 287),
  (78, tp 1024 249 (Str.ofString "S") 288),
  (79, tp 8 263 (Str.ofString "x") 289),
  (80, tu [.ref 77, .ref 78, .ref 79]),
  (81, tp 4 265 (Str.ofString "r") 290),
  (82, tu [.ref 81]),
  (83, tp 2 267 (Str.ofString "w") 291),
  (84, tu [.ref 83]),
  (85, tp 513 292 (Str.ofString "t") 293),
  (86, tp 512 251 (Str.ofString "T") 294),
  (87, tp 1 269 (Str.ofString "x") 295),
  (88, tu [.ref 85, .ref 86, .ref 87]),
  (89, tu [.ref 64, .ref 66, .ref 68, .ref 72, .ref 74, .ref 76, .ref 80, .ref 82, .ref 84, .ref 88]),
  (95, co (Str.ofString "filemode") 297 298 299 85 1 3 90 (.int 181 0) 91 (.ref 92) (.ref 93) 94 306 307),
  (96, fn 28 (Str.ofString "cpy313.stat") 224 95),
  (102, co (Str.ofString "heappush") 311 312 313 103 2 3 97 (.int 181 0) 98 (.ref 99) (.ref 100) 101 316 317),
  (103, fn 30 (Str.ofString "cpy313.heapq") 309 102),
  (109, co (Str.ofString "heappop") 319 320 321 106 1 3 104 (.int 181 0) 105 (.ref 106) (.ref 107) 108 325 326),
  (110, fn 31 (Str.ofString "cpy313.heapq") 309 109),
  (116, co (Str.ofString "_siftdown") 328 329 330 114 3 3 111 (.int 181 0) 112 (.ref 113) (.ref 114) 115 337 338),
  (117, fn 32 (Str.ofString "cpy313.heapq") 309 116),
  (123, co (Str.ofString "_siftup") 340 341 342 125 2 3 118 (.int 181 0) 119 (.ref 120) (.ref 121) 122 350 351),
  (124, fn 33 (Str.ofString "cpy313.heapq") 309 123),
  (130, co (Str.ofString "_law_made") 355 356 357 140 2 3 125 (.int 181 0) 126 (.ref 127) (.ref 128) 129 361 362),
  (131, fn 35 (Str.ofString "law_oh0034_01") 353 130),
  (137, co (Str.ofString "_law_run") 364 365 366 151 2 3 132 (.int 181 0) 133 (.ref 134) (.ref 135) 136 374 375),
  (138, fn 36 (Str.ofString "law_oh0034_01") 353 137),
  (144, co (Str.ofString "_law_spelled") 377 378 379 164 2 3 139 (.int 181 0) 140 (.ref 141) (.ref 142) 143 384 385),
  (145, fn 37 (Str.ofString "law_oh0034_01") 353 144),
  (149, co (Str.ofString "_law_due") 387 388 389 170 2 3 146 (.int 181 0) 147 (.none) (.none) 148 390 391),
  (150, fn 38 (Str.ofString "law_oh0034_01") 353 149),
  (154, co (Str.ofString "law") 393 394 395 179 1 3 151 (.int 181 0) 152 (.none) (.none) 153 396 397),
  (155, fn 39 (Str.ofString "law_oh0034_01") 353 154)]
noncomputable def kAs : List Addr := [3, 27, 28, 34, 35, 41, 42, 48, 49, 55, 56, 57, 58, 59, 60, 61, 62, 63, 64, 65, 66, 67, 68, 69, 70, 71, 72, 73, 74, 75, 76, 77, 78, 79, 80, 81, 82, 83, 84, 85, 86, 87, 88, 89, 95, 96, 102, 103, 109, 110, 116, 117, 123, 124, 130, 131, 137, 138, 144, 145, 149, 150, 154, 155]
theorem kAsE : ∀ P, kAs = (Kc P).map (·.1) := fun _ => rfl
local macro_rules | `(tactic| k_head) => `(tactic| o_head (kHook Kc kAs kAsE))
open_top hd for PySem.Challenge.rw_oh0034_01
/-- the same objects, by the constants that the line above makes -/
noncomputable def KL (P : Params) : Frag := [(3, hd.o_170 P), (27, hd.o_63 P), (28, hd.o_64 P), (34, hd.o_70 P), (35, hd.o_71 P), (41, hd.o_77 P), (42, hd.o_78 P), (48, hd.o_84 P), (49, hd.o_85 P), (55, hd.o_91 P), (56, hd.o_92 P), (57, hd.o_95 P), (58, hd.o_96 P), (59, hd.o_97 P), (60, hd.o_98 P), (61, hd.o_99 P), (62, hd.o_100 P), (63, hd.o_101 P), (64, hd.o_102 P), (65, hd.o_103 P), (66, hd.o_104 P), (67, hd.o_105 P), (68, hd.o_106 P), (69, hd.o_107 P), (70, hd.o_108 P), (71, hd.o_109 P), (72, hd.o_110 P), (73, hd.o_111 P), (74, hd.o_112 P), (75, hd.o_113 P), (76, hd.o_114 P), (77, hd.o_115 P), (78, hd.o_116 P), (79, hd.o_117 P), (80, hd.o_118 P), (81, hd.o_119 P), (82, hd.o_120 P), (83, hd.o_121 P), (84, hd.o_122 P), (85, hd.o_123 P), (86, hd.o_124 P), (87, hd.o_125 P), (88, hd.o_126 P), (89, hd.o_127 P), (95, hd.o_133 P), (96, hd.o_134 P), (102, hd.o_140 P), (103, hd.o_141 P), (109, hd.o_147 P), (110, hd.o_148 P), (116, hd.o_154 P), (117, hd.o_155 P), (123, hd.o_161 P), (124, hd.o_162 P), (130, hd.o_168 P), (131, hd.o_169 P), (137, hd.o_177 P), (138, hd.o_178 P), (144, hd.o_184 P), (145, hd.o_185 P), (149, hd.o_189 P), (150, hd.o_190 P), (154, hd.o_194 P), (155, hd.o_195 P)]
theorem kl_of (P : Params) : Kc P = KL P := by kernel_rfl


/-- the text's own objects in a heap -/
noncomputable abbrev KK (w : World) : Frag := KL w.params

structure Site (w : World) (mg mb : Str → Option Value) (h : Heap) : Prop where
  X : (KK w).In h
  T : TopRead hd.view_39 (looseW hd.view_39 [Str.ofString "_filemode_table"]) mg mb h

theorem Site.keeps {w : World} {mg mb : Str → Option Value} {h h' : Heap} (S : Site w mg mb h) (hk : ∀ b o, h.get? b = some o → h'.get? b = some o) : Site w mg mb h' :=
  ⟨S.X.keeps hk, S.T.keeps hk⟩

/-- all objects but those at wr stand as they stood -/
noncomputable def Kept (wr : List Addr) (h h' : Heap) : Prop := ∀ b o, b ∉ wr → h.get? b = some o → h'.get? b = some o

theorem enterF {prog : Program} {w : World} {A : Around} {s : Shared} {mg mb : Str → Option Value} {R : Result → Shared → Prop} {name qual : Str} {params : Arguments} {body : List Stmt} {scope : Scope}
    {dV kV doc pm cdv ct oc : Value} {an od : Option Addr} {osl : Array (Option Value)} {f : Addr} {args : Args} {binds : List (Str × Value)}
    (S : Site w mg mb s.heap)
    (ho : (KK w).lookup f = some ⟨oc, od, .func (fnOf name qual params body scope dV kV doc pm an cdv ct), osl⟩) (hcd : codeIn (KK w) cdv qual = true) (hroom : A.depth < recursionLimit)
    (hbind : BindsTo s (fnOf name qual params body scope dV kV doc pm an cdv ct) args binds) (hloc : ∀ y ∈ binds, scope.names.lookup y.1 = some .local)
    (h : ∀ h₁, Fr s.heap s.heap.objs.size h₁ (fun x => binds.reverse.lookup x) →
      wpAny (model prog w) (A.deeper (envOf qual scope s.heap.objs.size f cdv)) (execs body (envOf qual scope s.heap.objs.size f cdv))
        (fun fl s' => R (.ok (.ret (match fl with | .ret v => v | _ => .none))) s') (fun _ _ => False)
        { s with heap := h₁, toks := s.toks + binds.length })
    (hco : scope.isCoroutine = false := by rfl) (hgen : scope.isGenerator = false := by rfl) (hk : scope.kind = .function := by rfl)
    (hcell : ∀ x ∈ scope.names, x.2 ≠ .cell := by decide) :
    codeAny (model prog w) A (.call (.ref f) args) R s :=
  codeAny_call_def (fd := fnOf name qual params body scope dV kV doc pm an cdv ct) (body := body) (binds := binds) hroom (S.X _ _ ho) rfl S.T.nolimit (codeRec_of S.X hcd) rfl hbind hcell hloc
    (fun h₁ hns hk₁ => wpAny_mono (h h₁ ⟨hns, hk₁, Nat.le_refl _⟩) (fun _ _ x => x) (fun _ _ x => x.elim)) hco hgen hk
/-- the rest of a walk behind a letter: a step then copies the letter alone -/
theorem wpAny_hide {α : Type} {M : Model} {A : Around} {t : Sem α} {Q : α → Shared → Prop} {E : Value → Shared → Prop} {s : Shared} (h : ∀ T : α → Shared → Prop, (∀ a s', Q a s' → T a s') → wpAny M A t T E s) : wpAny M A t Q E s := h Q fun _ _ x => x
/-- enterF with letters for what is around, what is wanted and the frame's map -/
theorem enterX {prog : Program} {w : World} {A : Around} {s : Shared} {mg mb : Str → Option Value} {R : Result → Shared → Prop} {name qual : Str} {params : Arguments} {body : List Stmt} {scope : Scope}
    {dV kV doc pm cdv ct oc : Value} {an od : Option Addr} {osl : Array (Option Value)} {f : Addr} {args : Args} {binds : List (Str × Value)}
    (S : Site w mg mb s.heap)
    (ho : (KK w).lookup f = some ⟨oc, od, .func (fnOf name qual params body scope dV kV doc pm an cdv ct), osl⟩) (hcd : codeIn (KK w) cdv qual = true) (hroom : A.depth < recursionLimit)
    (hbind : BindsTo s (fnOf name qual params body scope dV kV doc pm an cdv ct) args binds) (hloc : ∀ y ∈ binds, scope.names.lookup y.1 = some .local)
    (h : ∀ (h₁ : Heap) (A' : Around) (m : Str → Option Value) (tk : Nat) (T : Flow → Shared → Prop), A'.depth = A.depth + 1 → A'.units = A.units + 3 → A'.handled = A.handled → (∀ x, m x = binds.reverse.lookup x) → Fr s.heap s.heap.objs.size h₁ m →
      (∀ v s', R (.ok (.ret v)) s' → T (.ret v) s') → (∀ s', R (.ok (.ret .none)) s' → T .next s') →
      wpAny (model prog w) A' (execs body (envOf qual scope s.heap.objs.size f cdv)) T (fun _ _ => False) ⟨h₁, s.gens, s.drawn, tk, s.os⟩)
    (hco : scope.isCoroutine = false := by rfl) (hgen : scope.isGenerator = false := by rfl) (hk : scope.kind = .function := by rfl)
    (hcell : ∀ x ∈ scope.names, x.2 ≠ .cell := by decide) :
    codeAny (model prog w) A (.call (.ref f) args) R s :=
  enterF S ho hcd hroom hbind hloc (fun h₁ F => h h₁ _ _ _ _ rfl rfl rfl (fun _ => rfl) F (fun _ _ x => x) (fun _ x => x)) hco hgen hk hcell
/-- one element made: the heap grown, the word kept -/
inductive StepQ (gs : Array GenState) (dr : Drawn) (os : OsState) (h : Heap) (K : Heap → Prop) (s₄ : Shared) : Prop
  | mk (h' : Heap) (tk' : Nat) (e : s₄ = ⟨h', gs, dr, tk', os⟩) (k : ∀ b o, h.get? b = some o → h'.get? b = some o) (j : K h')
theorem lessN {a n k b : Nat} (h : a + n < b) (hk : k ≤ n := by decide) : a + k < b := Nat.lt_of_le_of_lt (Nat.add_le_add_left hk a) h
theorem less0 {a n b : Nat} (h : a + n < b) : a < b := Nat.lt_of_le_of_lt (Nat.le_add_right a n) h
theorem itT {c : Bool} {P Q : Prop} (hc : c = true) (h : P) : if c = true then P else Q := by rw [if_pos hc]; exact h
theorem itF {c : Bool} {P Q : Prop} (hc : c = false) (h : Q) : if c = true then P else Q := by rw [hc, if_neg Bool.false_ne_true]; exact h


/-- one sign replaced by a text -/
noncomputable def rep (c : Nat) (z : List Nat) (l : List Nat) : List Nat := l.flatMap fun d => if d = c then z else [d]

theorem rep_free {c : Nat} {z : List Nat} : ∀ {l : List Nat}, c ∉ l → rep c z l = l
  | [], _ => rfl
  | d :: l, h => by
    have h1 : d ≠ c := fun e => h (by simp [e])
    have h2 : c ∉ l := fun e => h (by simp [e])
    show (if d = c then z else [d]) ++ rep c z l = d :: l
    rw [if_neg h1, rep_free h2]; rfl

theorem rep_append {c : Nat} {z a b : List Nat} : rep c z (a ++ b) = rep c z a ++ rep c z b := by
  unfold rep; rw [List.flatMap_append]

theorem rep_join (c : Nat) (z : Str) : ∀ parts : List Str, (∀ p ∈ parts, c ∉ p.cps.toList) → rep c z.cps.toList (Str.join ⟨#[c]⟩ parts).cps.toList = (Str.join z parts).cps.toList
  | [], _ => rfl
  | [x], h => by
    show rep c z.cps.toList x.cps.toList = x.cps.toList
    exact rep_free (h x (by simp))
  | x :: y :: r, h => by
    have ih := rep_join c z (y :: r) fun p hp => h p (.tail _ hp)
    have hx := rep_free (z := z.cps.toList) (h x (.head _))
    show rep c z.cps.toList (x ++ ⟨#[c]⟩ ++ Str.join ⟨#[c]⟩ (y :: r)).cps.toList = (x ++ z ++ Str.join z (y :: r)).cps.toList
    simp only [Str.cps_append, Array.toList_append, rep_append]
    rw [hx, ih]
    simp [rep]

theorem replace_rep (x z : Str) (c : Nat) : (Txt.replace x ⟨#[c]⟩ z).cps.toList = rep c z.cps.toList x.cps.toList := by
  rw [StrLaws.replace_one, ← rep_join c z _ (StrLaws.split_free x c), StrLaws.join_split]

theorem if_replace {prog : Program} {w : World} {A : Around} {s : Shared} {h₀ : Heap} {L a : Addr} {m : Str → Option Value} {scope : Scope} {cd : Value} {qual : Str} {E : Value → Shared → Prop} {Q : Flow → Shared → Prop}
    (c : Nat) (zl : List Nat) {C z x : Str} {t : Tok} {p1 p2 p3 p4 p5 p6 p7 p8 p9 p10 p11 : Pos} {k1 k2 k3 : Nat}
    (F : Fr h₀ L s.heap m) (hm : m "text" = some (.str x t)) (hC : C = ⟨#[c]⟩) (hzl : z.cps.toList = zl) (hx : x.length ≤ 1048576) (hz : z.length ≤ 14) (hyz : (C == z) = false)
    (h : ∀ h' tk t' m', Fr h₀ L h' m' → m' "text" = some (.str ⟨(rep c zl x.cps.toList).toArray⟩ t') → Q .next { s with heap := h', toks := tk })
    {pl : Sem Bool} (hk : scope.kind = .function := by rfl) (hl : (envOf qual scope L a cd).kindOf "text" = some .local := by rfl)
    (he : eval (.Call (.Attribute (.Name "text" p5) "replace" p6) [.Constant (.str C) k2 p7, .Constant (.str z) k3 p8] [] p9) (envOf qual scope L a cd) = (do
      let ov ← eval (.Name "text" p5) (envOf qual scope L a cd)
      standAt p6.atName
      let (f, first) ← holding [ov] (getMethod ov "replace" pl)
      callWith p9 f first (backTo p9 (starEach [.Constant (.str C) k2 p7, .Constant (.str z) k3 p8] (envOf qual scope L a cd))) []) := by rfl) :
    wpAny (model prog w) A (exec (.If (.Compare (.Constant (.str C) k1 p1) [.In] [.Name "text" p2] p3)
      [.Assign [.Name "text" p4] (.Call (.Attribute (.Name "text" p5) "replace" p6) [.Constant (.str C) k2 p7, .Constant (.str z) k3 p8] [] p9) p10] [] p11) (envOf qual scope L a cd)) Q E s := by
  refine wpAny_If (wpAny_isTrue_Compare1 (wpAny_Constant_str (ld F hm ?_ hk hl)))
  refine P.in_str ?_
  refine wpAny_truthy_bool ?_
  subst hC
  subst hzl
  rw [StrLaws.found_one]
  by_cases hc : c ∈ x.cps.toList
  · rw [decide_eq_true hc]
    simp only [if_true]
    with_reducible refine wpAny_execs_cons ?_
    refine wpAny_Assign_Name ?_
    with_reducible refine MethodCall_ ?_ he
    refine ld (s := { s with toks := s.toks + 1 }) F hm ?_ hk hl
    with_reducible refine GM.replace ?_
    refine callWith_method1 (spliced_more (wpAny_Constant_str (spliced_more (wpAny_Constant_str (spliced_none ?_)))))
    show wpAny _ _ (call (.builtin "str.replace") [.str x t, .str ⟨#[c]⟩ (s.toks + 1), .str z (s.toks + 1 + 1)]) _ _ _
    refine SC.replaceW (by simp) (by simp) (by simp) hyz hx hz fun t' k => ?_
    refine st (s := { s with toks := k }) F (fun h' F' => ?_) hk hl
    refine wpAny_execs_nil (h h' _ t' _ F' ?_)
    rw [if_pos rfl, ← replace_rep]
  · rw [decide_eq_false hc]
    simp only [Bool.false_eq_true, if_false]
    refine wpAny_execs_nil (h s.heap _ t m F ?_)
    rw [hm, rep_free hc]

theorem rep_flat (c : Nat) (z l : List Nat) : rep c z l = l.flatMap (fun d => if d = c then z else [d]) := rfl

/-- the four writers, sign by sign -/
noncomputable def escF (k : Nat) (d : Nat) : List Nat :=
  if d = 38 then [38, 97, 109, 112, 59]
  else if d = 60 ∧ k ≠ 2 then [38, 108, 116, 59]
  else if d = 62 ∧ k ≠ 3 then [38, 103, 116, 59]
  else if d = 34 ∧ k ≠ 0 then [38, 113, 117, 111, 116, 59]
  else if d = 13 ∧ k = 1 then [38, 35, 49, 51, 59]
  else if d = 13 ∧ k = 3 then [38, 35, 120, 68, 59]
  else if d = 10 ∧ k = 1 then [38, 35, 49, 48, 59]
  else if d = 10 ∧ k = 3 then [38, 35, 120, 65, 59]
  else if d = 9 ∧ k = 1 then [38, 35, 48, 57, 59]
  else if d = 9 ∧ k = 3 then [38, 35, 120, 57, 59]
  else [d]
noncomputable def escL (k : Nat) (l : List Nat) : List Nat := l.flatMap (escF k)
noncomputable def escS (k : Nat) (x : Str) : Str := ⟨(escL k x.cps.toList).toArray⟩

theorem rep_length (c : Nat) (z l : List Nat) (hz : z.length ≤ 6) : (rep c z l).length ≤ 6 * l.length := by
  induction l with
  | nil => simp [rep]
  | cons d l ih =>
    have : rep c z (d :: l) = (if d = c then z else [d]) ++ rep c z l := rfl
    rw [this, List.length_append, List.length_cons]
    split <;> simp <;> lia

theorem flat_length {f : Nat → List Nat} (hf : ∀ d, (f d).length ≤ 6) (l : List Nat) : (l.flatMap f).length ≤ 6 * l.length := by
  induction l with
  | nil => simp
  | cons d l ih => have := hf d; rw [List.flatMap_cons, List.length_append, List.length_cons]; lia

theorem esc_len (k d : Nat) : (escF k d).length ≤ 6 := by
  unfold escF; repeat' split
  all_goals simp
theorem escL_length (k : Nat) (l : List Nat) : (escL k l).length ≤ 6 * l.length := flat_length (esc_len k) l
theorem escS_length (k : Nat) (x : Str) : (escS k x).length ≤ 6 * x.length := by
  have := escL_length k x.cps.toList
  simpa [escS, Str.length] using this

noncomputable def comp (cs : List (Nat × List Nat)) (d : Nat) : List Nat := cs.foldl (fun l cz => rep cz.1 cz.2 l) [d]
noncomputable def repAll (cs : List (Nat × List Nat)) (l : List Nat) : List Nat := cs.foldl (fun l cz => rep cz.1 cz.2 l) l
theorem repAll_append (cs : List (Nat × List Nat)) : ∀ a b : List Nat, repAll cs (a ++ b) = repAll cs a ++ repAll cs b := by
  induction cs with
  | nil => intro a b; rfl
  | cons cz r ih => intro a b; show repAll r (rep cz.1 cz.2 (a ++ b)) = _; rw [rep_append, ih]; rfl
theorem repAll_nil (cs : List (Nat × List Nat)) : repAll cs [] = [] := by
  induction cs with
  | nil => rfl
  | cons cz r ih => exact ih
theorem repAll_flat (cs : List (Nat × List Nat)) (l : List Nat) : repAll cs l = l.flatMap (comp cs) := by
  induction l with
  | nil => exact repAll_nil cs
  | cons d l ih =>
    have : d :: l = [d] ++ l := rfl
    rw [this, repAll_append, ih, List.flatMap_append]
    simp [comp, repAll]
theorem comp_out {d : Nat} : ∀ {cs : List (Nat × List Nat)}, (∀ cz ∈ cs, d ≠ cz.1) → comp cs d = [d] := by
  intro cs
  induction cs with
  | nil => intro _; rfl
  | cons cz r ih =>
    intro h
    have h1 : d ≠ cz.1 := h cz (by simp)
    show repAll r (rep cz.1 cz.2 [d]) = [d]
    have : rep cz.1 cz.2 [d] = [d] := by simp [rep, h1]
    rw [this]
    exact ih fun y hy => h y (by simp [hy])
theorem comp_len {cs : List (Nat × List Nat)} (ok : (cs.all fun cz => decide ((comp cs cz.1).length ≤ 6)) = true) (d : Nat) : (comp cs d).length ≤ 6 := by
  by_cases hd : ∀ cz ∈ cs, d ≠ cz.1
  · rw [comp_out hd]; simp
  · have hd' : ∃ cz ∈ cs, d = cz.1 := Classical.byContradiction fun hn => hd fun cz hm e => hn ⟨cz, hm, e⟩
    obtain ⟨cz, hm, rfl⟩ := hd'
    exact of_decide_eq_true (List.all_eq_true.mp ok cz hm)
theorem repAll_len (cs : List (Nat × List Nat)) (l : List Nat) (ok : (cs.all fun cz => decide ((comp cs cz.1).length ≤ 6)) = true) : (repAll cs l).length ≤ 6 * l.length := by
  rw [repAll_flat]; exact flat_length (comp_len ok) l
theorem str_len {l : List Nat} {x : Str} {B : Nat} (h : l.length ≤ 6 * x.cps.toList.length) (hx : x.length ≤ B) (hB : 6 * B ≤ 1048576) : (⟨l.toArray⟩ : Str).length ≤ 1048576 := by
  have e : x.cps.toList.length = x.length := by simp [Str.length]
  rw [e] at h
  show l.toArray.size ≤ _
  rw [List.size_toArray]; lia

noncomputable abbrev zAmp : List Nat := [38, 97, 109, 112, 59]
noncomputable abbrev zLt : List Nat := [38, 108, 116, 59]
noncomputable abbrev zGt : List Nat := [38, 103, 116, 59]
noncomputable abbrev zQuot : List Nat := [38, 113, 117, 111, 116, 59]
noncomputable abbrev csOf (k : Nat) : List (Nat × List Nat) := match k with
  | 0 => [(38, zAmp), (60, zLt), (62, zGt)]
  | 1 => [(38, zAmp), (60, zLt), (62, zGt), (34, zQuot), (13, [38, 35, 49, 51, 59]), (10, [38, 35, 49, 48, 59]), (9, [38, 35, 48, 57, 59])]
  | 2 => [(38, zAmp), (62, zGt), (34, zQuot)]
  | _ => [(38, zAmp), (60, zLt), (34, zQuot), (9, [38, 35, 120, 57, 59]), (10, [38, 35, 120, 65, 59]), (13, [38, 35, 120, 68, 59])]
theorem comp_esc (k : Nat) (hk : k < 4) (d : Nat) : comp (csOf k) d = escF k d := by
  have : k = 0 ∨ k = 1 ∨ k = 2 ∨ k = 3 := by lia
  by_cases h1 : d = 38
  · subst h1; rcases this with rfl | rfl | rfl | rfl <;> decide
  by_cases h2 : d = 60
  · subst h2; rcases this with rfl | rfl | rfl | rfl <;> decide
  by_cases h3 : d = 62
  · subst h3; rcases this with rfl | rfl | rfl | rfl <;> decide
  by_cases h4 : d = 34
  · subst h4; rcases this with rfl | rfl | rfl | rfl <;> decide
  by_cases h5 : d = 13
  · subst h5; rcases this with rfl | rfl | rfl | rfl <;> decide
  by_cases h6 : d = 10
  · subst h6; rcases this with rfl | rfl | rfl | rfl <;> decide
  by_cases h7 : d = 9
  · subst h7; rcases this with rfl | rfl | rfl | rfl <;> decide
  have e : escF k d = [d] := by simp [escF, h1, h2, h3, h4, h5, h6, h7]
  rw [e]
  refine comp_out ?_
  rcases this with rfl | rfl | rfl | rfl <;> (simp only [csOf]; simp [h1, h2, h3, h4, h5, h6, h7])
theorem repAll_esc (k : Nat) (hk : k < 4) (x : Str) : (⟨(repAll (csOf k) x.cps.toList).toArray⟩ : Str) = escS k x := by
  unfold escS escL
  rw [repAll_flat]
  have : comp (csOf k) = escF k := funext (comp_esc k hk)
  rw [this]

inductive EscQ (s : Shared) (y : Str) (f : Flow) (s' : Shared) : Prop
  | mk (h' : Heap) (tk : Nat) (t' : Tok) (e : f = .ret (.str y t')) (k : Kept [] s.heap h') (es : s' = { s with heap := h', toks := tk })
theorem esc_cdata {prog : Program} {w : World} {A : Around} {s : Shared} {mg mb : Str → Option Value} {R : Result → Shared → Prop} {x : Str} {t : Tok}
    (S : Site w mg mb s.heap) (hroom : A.depth < recursionLimit) (hx : x.length ≤ 170000)
    (h : ∀ h' tk t', Kept [] s.heap h' → R (.ok (.ret (.str (escS 0 x) t'))) { s with heap := h', toks := tk }) :
    codeAny (model prog w) A (.call (.ref 28) ⟨[.str x t], []⟩) R s := by
  refine enterX S (by rfl) (by rfl) hroom (BindsTo.of_eq rfl) (locs rfl) fun h₁ A' m0 tk0 T0 _ _ _ hm0 F hT0 _ => ?_
  have mt : m0 "text" = some (.str x t) := hm0 _
  clear hm0
  with_reducible refine wpAny_execs_cons ?_
  refine wpAny_Try_except (wpAny_mono (Q := EscQ s (escS 0 x)) (E := fun _ _ => False) ?_ ?_ fun _ _ x => x.elim)
  · refine wpAny_hide fun T hT => ?_
    have X0 : x.length ≤ 1048576 := by lia
    with_reducible refine wpAny_execs_cons ?_
    refine if_replace 38 [38, 97, 109, 112, 59] (s := { s with heap := h₁, toks := tk0 }) F mt (by decide +kernel) (by decide +kernel) X0 (by decide +kernel) (by decide +kernel) fun h1 k1 t1 m1 F1 e1 => ?_
    have X1 := str_len (repAll_len ((csOf 0).take 1) x.cps.toList (by decide +kernel)) hx (by decide)
    with_reducible refine wpAny_execs_cons ?_
    refine if_replace 60 [38, 108, 116, 59] (s := { s with heap := h1, toks := k1 }) F1 e1 (by decide +kernel) (by decide +kernel) X1 (by decide +kernel) (by decide +kernel) fun h2 k2 t2 m2 F2 e2 => ?_
    have X2 := str_len (repAll_len ((csOf 0).take 2) x.cps.toList (by decide +kernel)) hx (by decide)
    with_reducible refine wpAny_execs_cons ?_
    refine if_replace 62 [38, 103, 116, 59] (s := { s with heap := h2, toks := k2 }) F2 e2 (by decide +kernel) (by decide +kernel) X2 (by decide +kernel) (by decide +kernel) fun h3 k3 t3 m3 F3 e3 => ?_
    have q3 := repAll_esc 0 (by decide) x
    replace e3 : m3 "text" = some (.str (escS 0 x) t3) := e3.trans (by rw [← q3]; kernel_rfl)
    with_reducible refine wpAny_execs_cons ?_
    refine wpAny_Return_some (ld (s := { s with heap := h3, toks := k3 }) F3 e3 ?_)
    exact hT _ _ ⟨h3, k3, t3, rfl, fun b o _ e => F3.keep b o e, rfl⟩
  · rintro f s' ⟨h', tk, t', rfl, hk, rfl⟩
    exact hT0 _ _ (h h' tk t' hk)

theorem esc_attrib {prog : Program} {w : World} {A : Around} {s : Shared} {mg mb : Str → Option Value} {R : Result → Shared → Prop} {x : Str} {t : Tok}
    (S : Site w mg mb s.heap) (hroom : A.depth < recursionLimit) (hx : x.length ≤ 170000)
    (h : ∀ h' tk t', Kept [] s.heap h' → R (.ok (.ret (.str (escS 1 x) t'))) { s with heap := h', toks := tk }) :
    codeAny (model prog w) A (.call (.ref 35) ⟨[.str x t], []⟩) R s := by
  refine enterX S (by rfl) (by rfl) hroom (BindsTo.of_eq rfl) (locs rfl) fun h₁ A' m0 tk0 T0 _ _ _ hm0 F hT0 _ => ?_
  have mt : m0 "text" = some (.str x t) := hm0 _
  clear hm0
  with_reducible refine wpAny_execs_cons ?_
  refine wpAny_Try_except (wpAny_mono (Q := EscQ s (escS 1 x)) (E := fun _ _ => False) ?_ ?_ fun _ _ x => x.elim)
  · refine wpAny_hide fun T hT => ?_
    have X0 : x.length ≤ 1048576 := by lia
    with_reducible refine wpAny_execs_cons ?_
    refine if_replace 38 [38, 97, 109, 112, 59] (s := { s with heap := h₁, toks := tk0 }) F mt (by decide +kernel) (by decide +kernel) X0 (by decide +kernel) (by decide +kernel) fun h1 k1 t1 m1 F1 e1 => ?_
    have X1 := str_len (repAll_len ((csOf 1).take 1) x.cps.toList (by decide +kernel)) hx (by decide)
    with_reducible refine wpAny_execs_cons ?_
    refine if_replace 60 [38, 108, 116, 59] (s := { s with heap := h1, toks := k1 }) F1 e1 (by decide +kernel) (by decide +kernel) X1 (by decide +kernel) (by decide +kernel) fun h2 k2 t2 m2 F2 e2 => ?_
    have X2 := str_len (repAll_len ((csOf 1).take 2) x.cps.toList (by decide +kernel)) hx (by decide)
    with_reducible refine wpAny_execs_cons ?_
    refine if_replace 62 [38, 103, 116, 59] (s := { s with heap := h2, toks := k2 }) F2 e2 (by decide +kernel) (by decide +kernel) X2 (by decide +kernel) (by decide +kernel) fun h3 k3 t3 m3 F3 e3 => ?_
    have X3 := str_len (repAll_len ((csOf 1).take 3) x.cps.toList (by decide +kernel)) hx (by decide)
    with_reducible refine wpAny_execs_cons ?_
    refine if_replace 34 [38, 113, 117, 111, 116, 59] (s := { s with heap := h3, toks := k3 }) F3 e3 (by decide +kernel) (by decide +kernel) X3 (by decide +kernel) (by decide +kernel) fun h4 k4 t4 m4 F4 e4 => ?_
    have X4 := str_len (repAll_len ((csOf 1).take 4) x.cps.toList (by decide +kernel)) hx (by decide)
    with_reducible refine wpAny_execs_cons ?_
    refine if_replace 13 [38, 35, 49, 51, 59] (s := { s with heap := h4, toks := k4 }) F4 e4 (by decide +kernel) (by decide +kernel) X4 (by decide +kernel) (by decide +kernel) fun h5 k5 t5 m5 F5 e5 => ?_
    have X5 := str_len (repAll_len ((csOf 1).take 5) x.cps.toList (by decide +kernel)) hx (by decide)
    with_reducible refine wpAny_execs_cons ?_
    refine if_replace 10 [38, 35, 49, 48, 59] (s := { s with heap := h5, toks := k5 }) F5 e5 (by decide +kernel) (by decide +kernel) X5 (by decide +kernel) (by decide +kernel) fun h6 k6 t6 m6 F6 e6 => ?_
    have X6 := str_len (repAll_len ((csOf 1).take 6) x.cps.toList (by decide +kernel)) hx (by decide)
    with_reducible refine wpAny_execs_cons ?_
    refine if_replace 9 [38, 35, 48, 57, 59] (s := { s with heap := h6, toks := k6 }) F6 e6 (by decide +kernel) (by decide +kernel) X6 (by decide +kernel) (by decide +kernel) fun h7 k7 t7 m7 F7 e7 => ?_
    have q7 := repAll_esc 1 (by decide) x
    replace e7 : m7 "text" = some (.str (escS 1 x) t7) := e7.trans (by rw [← q7]; kernel_rfl)
    with_reducible refine wpAny_execs_cons ?_
    refine wpAny_Return_some (ld (s := { s with heap := h7, toks := k7 }) F7 e7 ?_)
    exact hT _ _ ⟨h7, k7, t7, rfl, fun b o _ e => F7.keep b o e, rfl⟩
  · rintro f s' ⟨h', tk, t', rfl, hk, rfl⟩
    exact hT0 _ _ (h h' tk t' hk)

theorem esc_html {prog : Program} {w : World} {A : Around} {s : Shared} {mg mb : Str → Option Value} {R : Result → Shared → Prop} {x : Str} {t : Tok}
    (S : Site w mg mb s.heap) (hroom : A.depth < recursionLimit) (hx : x.length ≤ 170000)
    (h : ∀ h' tk t', Kept [] s.heap h' → R (.ok (.ret (.str (escS 2 x) t'))) { s with heap := h', toks := tk }) :
    codeAny (model prog w) A (.call (.ref 42) ⟨[.str x t], []⟩) R s := by
  refine enterX S (by rfl) (by rfl) hroom (BindsTo.of_eq rfl) (locs rfl) fun h₁ A' m0 tk0 T0 _ _ _ hm0 F hT0 _ => ?_
  have mt : m0 "text" = some (.str x t) := hm0 _
  clear hm0
  with_reducible refine wpAny_execs_cons ?_
  refine wpAny_Try_except (wpAny_mono (Q := EscQ s (escS 2 x)) (E := fun _ _ => False) ?_ ?_ fun _ _ x => x.elim)
  · refine wpAny_hide fun T hT => ?_
    have X0 : x.length ≤ 1048576 := by lia
    with_reducible refine wpAny_execs_cons ?_
    refine if_replace 38 [38, 97, 109, 112, 59] (s := { s with heap := h₁, toks := tk0 }) F mt (by decide +kernel) (by decide +kernel) X0 (by decide +kernel) (by decide +kernel) fun h1 k1 t1 m1 F1 e1 => ?_
    have X1 := str_len (repAll_len ((csOf 2).take 1) x.cps.toList (by decide +kernel)) hx (by decide)
    with_reducible refine wpAny_execs_cons ?_
    refine if_replace 62 [38, 103, 116, 59] (s := { s with heap := h1, toks := k1 }) F1 e1 (by decide +kernel) (by decide +kernel) X1 (by decide +kernel) (by decide +kernel) fun h2 k2 t2 m2 F2 e2 => ?_
    have X2 := str_len (repAll_len ((csOf 2).take 2) x.cps.toList (by decide +kernel)) hx (by decide)
    with_reducible refine wpAny_execs_cons ?_
    refine if_replace 34 [38, 113, 117, 111, 116, 59] (s := { s with heap := h2, toks := k2 }) F2 e2 (by decide +kernel) (by decide +kernel) X2 (by decide +kernel) (by decide +kernel) fun h3 k3 t3 m3 F3 e3 => ?_
    have q3 := repAll_esc 2 (by decide) x
    replace e3 : m3 "text" = some (.str (escS 2 x) t3) := e3.trans (by rw [← q3]; kernel_rfl)
    with_reducible refine wpAny_execs_cons ?_
    refine wpAny_Return_some (ld (s := { s with heap := h3, toks := k3 }) F3 e3 ?_)
    exact hT _ _ ⟨h3, k3, t3, rfl, fun b o _ e => F3.keep b o e, rfl⟩
  · rintro f s' ⟨h', tk, t', rfl, hk, rfl⟩
    exact hT0 _ _ (h h' tk t' hk)

theorem esc_c14n {prog : Program} {w : World} {A : Around} {s : Shared} {mg mb : Str → Option Value} {R : Result → Shared → Prop} {x : Str} {t : Tok}
    (S : Site w mg mb s.heap) (hroom : A.depth < recursionLimit) (hx : x.length ≤ 170000)
    (h : ∀ h' tk t', Kept [] s.heap h' → R (.ok (.ret (.str (escS 3 x) t'))) { s with heap := h', toks := tk }) :
    codeAny (model prog w) A (.call (.ref 49) ⟨[.str x t], []⟩) R s := by
  refine enterX S (by rfl) (by rfl) hroom (BindsTo.of_eq rfl) (locs rfl) fun h₁ A' m0 tk0 T0 _ _ _ hm0 F hT0 _ => ?_
  have mt : m0 "text" = some (.str x t) := hm0 _
  clear hm0
  with_reducible refine wpAny_execs_cons ?_
  refine wpAny_Try_except (wpAny_mono (Q := EscQ s (escS 3 x)) (E := fun _ _ => False) ?_ ?_ fun _ _ x => x.elim)
  · refine wpAny_hide fun T hT => ?_
    have X0 : x.length ≤ 1048576 := by lia
    with_reducible refine wpAny_execs_cons ?_
    refine if_replace 38 [38, 97, 109, 112, 59] (s := { s with heap := h₁, toks := tk0 }) F mt (by decide +kernel) (by decide +kernel) X0 (by decide +kernel) (by decide +kernel) fun h1 k1 t1 m1 F1 e1 => ?_
    have X1 := str_len (repAll_len ((csOf 3).take 1) x.cps.toList (by decide +kernel)) hx (by decide)
    with_reducible refine wpAny_execs_cons ?_
    refine if_replace 60 [38, 108, 116, 59] (s := { s with heap := h1, toks := k1 }) F1 e1 (by decide +kernel) (by decide +kernel) X1 (by decide +kernel) (by decide +kernel) fun h2 k2 t2 m2 F2 e2 => ?_
    have X2 := str_len (repAll_len ((csOf 3).take 2) x.cps.toList (by decide +kernel)) hx (by decide)
    with_reducible refine wpAny_execs_cons ?_
    refine if_replace 34 [38, 113, 117, 111, 116, 59] (s := { s with heap := h2, toks := k2 }) F2 e2 (by decide +kernel) (by decide +kernel) X2 (by decide +kernel) (by decide +kernel) fun h3 k3 t3 m3 F3 e3 => ?_
    have X3 := str_len (repAll_len ((csOf 3).take 3) x.cps.toList (by decide +kernel)) hx (by decide)
    with_reducible refine wpAny_execs_cons ?_
    refine if_replace 9 [38, 35, 120, 57, 59] (s := { s with heap := h3, toks := k3 }) F3 e3 (by decide +kernel) (by decide +kernel) X3 (by decide +kernel) (by decide +kernel) fun h4 k4 t4 m4 F4 e4 => ?_
    have X4 := str_len (repAll_len ((csOf 3).take 4) x.cps.toList (by decide +kernel)) hx (by decide)
    with_reducible refine wpAny_execs_cons ?_
    refine if_replace 10 [38, 35, 120, 65, 59] (s := { s with heap := h4, toks := k4 }) F4 e4 (by decide +kernel) (by decide +kernel) X4 (by decide +kernel) (by decide +kernel) fun h5 k5 t5 m5 F5 e5 => ?_
    have X5 := str_len (repAll_len ((csOf 3).take 5) x.cps.toList (by decide +kernel)) hx (by decide)
    with_reducible refine wpAny_execs_cons ?_
    refine if_replace 13 [38, 35, 120, 68, 59] (s := { s with heap := h5, toks := k5 }) F5 e5 (by decide +kernel) (by decide +kernel) X5 (by decide +kernel) (by decide +kernel) fun h6 k6 t6 m6 F6 e6 => ?_
    have q6 := repAll_esc 3 (by decide) x
    replace e6 : m6 "text" = some (.str (escS 3 x) t6) := e6.trans (by rw [← q6]; kernel_rfl)
    with_reducible refine wpAny_execs_cons ?_
    refine wpAny_Return_some (ld (s := { s with heap := h6, toks := k6 }) F6 e6 ?_)
    exact hT _ _ ⟨h6, k6, t6, rfl, fun b o _ e => F6.keep b o e, rfl⟩
  · rintro f s' ⟨h', tk, t', rfl, hk, rfl⟩
    exact hT0 _ _ (h h' tk t' hk)


noncomputable def ltP (p q : Int × Str) : Bool := if p.1 = q.1 then decide (p.2.cps.toList < q.2.cps.toList) else decide (p.1 < q.1)

inductive IsPair (h : Heap) (v : Value) (p : Int × Str) : Prop
  | mk (a : Addr) (o : Obj) (t u : Tok) (n : Nat) (r : v = .ref a ∧ h.get? a = some o ∧ o.cls = .type "tuple" ∧ o.data = .seq #[.int p.1 t, .str p.2 u] n)
theorem IsPair.keeps {h h' : Heap} {v : Value} {p : Int × Str} (x : IsPair h v p) (hk : ∀ b o, h.get? b = some o → h'.get? b = some o) : IsPair h' v p := by
  obtain ⟨a, o, t, u, n, e, ho, r⟩ := x
  exact ⟨a, o, t, u, n, e, hk _ _ ho, r⟩

theorem lt_pair {prog : Program} {w : World} {A : Around} {s : Shared} {E : Value → Shared → Prop} {Q : Value → Shared → Prop} {u v : Value} {p q : Int × Str}
    (hu : A.units < cLine) (hp : IsPair s.heap u p) (hq : IsPair s.heap v q) (h : Q (.bool (ltP p q)) s) : wpAny (model prog w) A (compareOp .Lt u v) Q E s := by
  obtain ⟨a, oa, t1, t2, na, rfl, hoa, hca, hda⟩ := hp
  obtain ⟨b, ob, t3, t4, nb, rfl, hob, hcb, hdb⟩ := hq
  have hTa : s.TypeIs (.ref a) "tuple" := ⟨oa, hoa, hca⟩
  have hTb : s.TypeIs (.ref b) "tuple" := ⟨ob, hob, hcb⟩
  refine cmp_ofLt (wpAny_richCompare_same_room (op := .Lt) hTa hTb F.slot_tuple_lt (wpAny_call_entry F.slot_tuple_lt hTa F.entry_tuple_lt ?_ (F.args_tuple_lt_2 _ _)) hu)
  show wpAny _ _ (isInstance (.ref b) (.type "tuple") >>= _) _ _ s
  refine wpAny_bind (wpAny_isInstance hTb isSubtype_tuple_tuple ?_)
  simp only [Bool.not_true, Bool.false_eq_true, if_false]
  refine wpAny_bind (wpAny_tupleItemsOf hoa hda ?_)
  refine wpAny_bind (wpAny_tupleItemsOf hob hdb ?_)
  have hz : (#[Value.int p.1 t1, Value.str p.2 t2] : Array Value).toList.zip (#[Value.int q.1 t3, Value.str q.2 t4] : Array Value).toList = [(Value.int p.1 t1, Value.int q.1 t3), (Value.str p.2 t2, Value.str q.2 t4)] := rfl
  refine wpAny_bind ?_
  rw [hz, List.forIn_cons]
  refine wpAny_bind ?_
  refine wpAny_bind ((intKind prog w).eqBool (a := p.1) (b := q.1) (intKind_is _ _ _ _) (intKind_is _ _ _ _) ?_)
  unfold ltP at h
  by_cases h1 : p.1 = q.1
  · rw [decide_eq_true h1]
    rw [if_pos h1] at h
    simp only [Bool.not_true, Bool.false_eq_true, if_false]
    refine wpAny_pure ?_
    dsimp only
    rw [List.forIn_cons]
    refine wpAny_bind ?_
    refine wpAny_bind ((strKind prog w).eqBool (a := p.2) (b := q.2) (strKind_is _ _ _ _) (strKind_is _ _ _ _) ?_)
    by_cases h2 : p.2 = q.2
    · rw [decide_eq_true h2]
      simp only [Bool.not_true, Bool.false_eq_true, if_false]
      refine wpAny_pure ?_
      dsimp only
      rw [List.forIn_nil]
      refine wpAny_pure ?_
      refine wpAny_pure ?_
      rw [h2, decide_eq_false (List.lt_irrefl _)] at h
      exact ⟨_, rfl, (fun e => nomatch e), h⟩
    · rw [decide_eq_false h2]
      simp only [Bool.not_false, if_true]
      refine wpAny_bind (wpAny_rule ?_)
      refine wpAny_bind (show wpAny _ _ (compareOp .Lt _ _) _ _ _ from lt_str ?_)
      refine wpAny_bind (wpAny_pure (wpAny_pure ?_))
      refine wpAny_pure (wpAny_pure ?_)
      exact ⟨_, rfl, (fun e => nomatch e), h⟩
  · rw [decide_eq_false h1]
    rw [if_neg h1] at h
    simp only [Bool.not_false, if_true]
    refine wpAny_bind (wpAny_rule ?_)
    refine wpAny_bind (show wpAny _ _ (compareOp .Lt _ _) _ _ _ from lt_int ?_)
    refine wpAny_bind (wpAny_pure (wpAny_pure ?_))
    refine wpAny_pure (wpAny_pure ?_)
    exact ⟨_, rfl, (fun e => nomatch e), h⟩


section pureheap
variable {α : Type} (lt : α → α → Bool) (d : α)
/-- _siftdown's loop from place pos, the new item not yet laid -/
noncomputable def sd (new : α) : Nat → List α → Nat → List α
  | 0, zs, pos => zs.set pos new
  | f + 1, zs, pos => if pos = 0 then zs.set pos new
    else if lt new (zs.getD ((pos - 1) / 2) d) then sd new f (zs.set pos (zs.getD ((pos - 1) / 2) d)) ((pos - 1) / 2)
    else zs.set pos new
noncomputable def siftdownL (zs : List α) (pos : Nat) : List α := sd lt d (zs.getD pos d) pos zs pos
/-- the child that _siftup takes -/
noncomputable def suChild (zs : List α) (c : Nat) : Nat := if c + 1 < zs.length ∧ lt (zs.getD c d) (zs.getD (c + 1) d) = false then c + 1 else c
noncomputable def su : Nat → List α → Nat → List α × Nat
  | 0, zs, pos => (zs, pos)
  | f + 1, zs, pos => if 2 * pos + 1 < zs.length then su f (zs.set pos (zs.getD (suChild lt d zs (2 * pos + 1)) d)) (suChild lt d zs (2 * pos + 1)) else (zs, pos)
noncomputable def siftupL (zs : List α) : List α :=
  let r := su lt d zs.length zs 0
  siftdownL lt d (r.1.set r.2 (zs.getD 0 d)) r.2
noncomputable def hpush (zs : List α) (z : α) : List α := siftdownL lt d (zs ++ [z]) zs.length
noncomputable def hpop (zs : List α) : α × List α :=
  if zs.dropLast = [] then (zs.getLastD d, [])
  else (zs.dropLast.getD 0 d, siftupL lt d (zs.dropLast.set 0 (zs.getLastD d)))
end pureheap

noncomputable abbrev Z := Value × (Int × Str)
noncomputable abbrev ltZ (a b : Z) : Bool := ltP a.2 b.2
noncomputable abbrev dZ : Z := (.none, (0, Str.empty))

theorem sd_length {α : Type} {lt : α → α → Bool} {d new : α} : ∀ (f : Nat) (zs : List α) (pos : Nat), (sd lt d new f zs pos).length = zs.length
  | 0, zs, pos => by simp [sd]
  | f + 1, zs, pos => by
    unfold sd
    split
    · simp
    · split
      · rw [sd_length]; simp
      · simp
theorem sd_mem {α : Type} {lt : α → α → Bool} {d new : α} {P : α → Prop} (hn : P new) : ∀ (f : Nat) (zs : List α) (pos : Nat), pos ≤ f → pos < zs.length → (∀ z ∈ zs, P z) → ∀ z ∈ sd lt d new f zs pos, P z
  | 0, zs, pos, _, _, h => fun z hz => by
    simp only [sd] at hz
    rcases List.mem_or_eq_of_mem_set hz with hz | rfl
    · exact h z hz
    · exact hn
  | f + 1, zs, pos, hf, hp, h => fun z hz => by
    unfold sd at hz
    split at hz
    · rcases List.mem_or_eq_of_mem_set hz with hz | rfl
      · exact h z hz
      · exact hn
    · have hpp : (pos - 1) / 2 < zs.length := by lia
      split at hz
      · refine sd_mem hn f _ _ (by lia) (by rw [List.length_set]; lia) (fun y hy => ?_) z hz
        rcases List.mem_or_eq_of_mem_set hy with hy | rfl
        · exact h y hy
        · rw [List.getD_eq_getElem?_getD, List.getElem?_eq_getElem hpp]; exact h _ (List.getElem_mem hpp)
      · rcases List.mem_or_eq_of_mem_set hz with hz | rfl
        · exact h z hz
        · exact hn

/-- a list object -/
noncomputable abbrev lo (vs : List Value) (n : Nat) : Obj := { cls := .type "list", data := .seq vs.toArray n }

section
variable {prog : Program} {w : World} {A : Around} {E : Value → Shared → Prop} {s : Shared}
theorem isList_of {h : Heap} {l : Addr} {vs : List Value} {n : Nat} (ho : h.get? l = some (lo vs n)) : h.IsList l vs.toArray := ⟨_, ho, rfl, n, rfl⟩
theorem item_at {value slice : PySem.Expr} {l : Addr} {vs : List Value} {n : Nat} {k : Int} {u : Tok} {v : Value} {Q : Value → Shared → Prop} (ho : s.heap.get? l = some (lo vs n)) (h0 : 0 ≤ k) (hhi : k < 2 ^ 63) (hx : vs[k.toNat]? = some v) (h : Q v s)
    (hs : subscripted slice false (.ref l) (.int k u) = operate [.ref l, .int k u] (getItem (.ref l) (.int k u)) := by with_unfolding_all rfl) :
    wpAny (model prog w) A (subscriptTail value slice (.ref l) (.int k u)) Q E s :=
  tail_any (isList_of ho).typeIs slot_list_getitem.lookup (wpAny_getItem_list (isList_of ho) h0 hhi (by simpa using hx) h) hs
theorem setItem_at {l : Addr} {vs : List Value} {n : Nat} {k : Int} {t : Tok} {v : Value} {Q : Unit → Shared → Prop} (ho : s.heap.get? l = some (lo vs n))
    (h0 : 0 ≤ k) (hfit : k < 2 ^ 63) (hn : k < vs.length)
    (hQ : ∀ h', Heap.SameBut l s.heap h' → h'.get? l = some (lo (vs.set k.toNat v) n) → Q () { s with heap := h' }) :
    wpAny (model prog w) A (setItem (.ref l) (.int k t) v) Q E s := by
  have hl := isList_of ho
  unfold setItem
  try with_reducible refine wpAny_holding ?_
  first | refine wpAny_bind (wpAny_pure ?_) | skip
  refine wpAny_bind (wpAny_sequenceKey hl.typeIs (by decide) ?_)
  refine wpAny_bind (wpAny_callSpecial?_slot (name := Str.ofString "__setitem__") hl.typeIs slot_list_setitem
    (wpAny_call_entry slot_list_setitem hl.typeIs entry_list_setitem ?_ (args_list_setitem _ _ _)))
  show wpAny _ _ (Builtin.List.listSubscript? (.int k t) >>= _) _ _ s
  refine wpAny_bind (wpAny_listSubscript_int (fitsIndex_of h0 hfit) ?_)
  clear hfit
  obtain ⟨j, rfl⟩ := Int.eq_ofNat_of_zero_le h0
  have hj : j < vs.toArray.size := by rw [List.size_toArray]; lia
  have hx' : vs.toArray[j]? = some vs.toArray[j] := Array.getElem?_eq_getElem hj
  show wpAny _ _ ((seqItemAt l j >>= fun r => pure (r.map (j, ·))) >>= _) _ _ s
  refine wpAny_bind (wpAny_bind (wpAny_seqItemAt ho rfl (wpAny_pure ?_)))
  rw [hx']
  show wpAny _ _ (setSeqItemAt l j v >>= _) _ _ s
  have hfin : (s.heap.update l (Obj.mapSeq (·.setIfInBounds j v))).get? l = some (lo (vs.set j v) n) := by
    have e : Obj.mapSeq (·.setIfInBounds j v) (lo vs n) = lo (vs.set j v) n := by
      simp [Obj.mapSeq, lo]
    rw [Heap.get?_update_self _ ho (by rw [e]; rfl), e]
  refine wpAny_bind (wpAny_setSeqItemAt ho rfl ?_)
  first
    | exact wpAny_bind (wpAny_pure (wpAny_pure ⟨.none, rfl, wpAny_pure (hQ _ (Heap.SameBut.update ..) hfin)⟩))
    | exact wpAny_pure ⟨.none, rfl, wpAny_pure (hQ _ (Heap.SameBut.update ..) hfin)⟩
end

theorem n63 {k n : Nat} (h : k < n) (hn : n < 2 ^ 60) : (k : Int) < 2 ^ 63 := by lia
theorem nLt {k n : Nat} {zs : List Z} (h : k < zs.length) (e : n = k := by rfl) : (n : Int) < ((zs.map (·.1)).length : Int) := by rw [e, List.length_map]; exact Int.ofNat_lt.mpr h
theorem Site.unhide {w : World} {mg mb : Str → Option Value} {h : Heap} {l : Addr} (S : Site w mg mb (h.hide l)) : Site w mg mb h := S.keeps fun _ _ e => Heap.of_hide e
theorem hidden {h h₁ : Heap} {l L : Addr} {m : Str → Option Value} {o : Obj} (F : Fr h L h₁ m) (ho : h.get? l = some o) : Fr (h.hide l) L h₁ m ∧ News (h.hide l) L h₁ [(l, o)] := by
  refine ⟨⟨F.ns, fun b x e => F.keep b x (Heap.of_hide e), by rw [Heap.hide_size]; exact F.above⟩, fun p hp => ?_⟩
  rcases List.mem_singleton.mp hp with rfl
  exact ⟨F.keep _ _ ho, Nat.ne_of_lt (Nat.lt_of_lt_of_le (Heap.lt_size ho) F.above), Heap.hide_self _ _⟩

theorem pick {vs : List Z} {i : Nat} (h : i < vs.length) : (vs.map (·.1))[i]? = some (vs.getD i dZ).1 := by
  rw [List.getElem?_map, List.getD_eq_getElem?_getD, List.getElem?_eq_getElem h]; rfl
theorem getD_mem {α : Type} {vs : List α} {i : Nat} {d : α} (h : i < vs.length) : vs.getD i d ∈ vs := by
  rw [List.getD_eq_getElem?_getD, List.getElem?_eq_getElem h]; exact List.getElem_mem h
theorem map_setZ (vs : List Z) (i : Nat) (z : Z) : (vs.map (·.1)).set i z.1 = (vs.set i z).map (·.1) := (List.map_set).symm

inductive SdJ (g : Heap) (l : Addr) (t0 : Tok) (new : Z) (target : List Z) (n : Nat) (m : Str → Option Value) (news : List (Addr × Obj)) : Prop
  | mk (zs : List Z) (f ep : Nat) (tp : Tok) (r : news = [(l, lo (zs.map (·.1)) ep)] ∧ m "heap" = some (.ref l) ∧ m "startpos" = some (.int 0 t0) ∧ m "pos" = some (.int n tp) ∧ m "newitem" = some new.1 ∧
    n < zs.length ∧ zs.length < 2 ^ 60 ∧ n ≤ f ∧ (∀ z ∈ zs, IsPair g z.1 z.2) ∧ sd ltZ dZ new f zs n = target)
inductive SdQ (g : Heap) (L l : Addr) (s : Shared) (new : Z) (target : List Z) (f : Flow) (s' : Shared) : Prop
  | mk (e : f = .next) (h' : Heap) (tk : Nat) (m : Str → Option Value) (zs : List Z) (n ep : Nat) (tp : Tok) (r : s' = { s with heap := h', toks := tk } ∧ Fr g L h' m ∧ News g L h' [(l, lo (zs.map (·.1)) ep)] ∧
    m "heap" = some (.ref l) ∧ m "pos" = some (.int n tp) ∧ m "newitem" = some new.1 ∧ n < zs.length ∧ zs.length < 2 ^ 60 ∧ zs.set n new = target)

theorem siftdown_spec {prog : Program} {w : World} {A : Around} {s : Shared} {mg mb : Str → Option Value} {R : Result → Shared → Prop} {l : Addr} {zs : List Z} {ep pos : Nat} {t0 tp : Tok}
    (S : Site w mg mb (s.heap.hide l)) (hroom : A.depth < recursionLimit) (hu : A.units + 10 < cLine) (hl : s.heap.get? l = some (lo (zs.map (·.1)) ep))
    (hz : ∀ z ∈ zs, IsPair (s.heap.hide l) z.1 z.2) (hp : pos < zs.length) (hsz : zs.length < 2 ^ 60)
    (h : ∀ h' tk ep', Kept [l] s.heap h' → h'.get? l = some (lo ((siftdownL ltZ dZ zs pos).map (·.1)) ep') → R (.ok (.ret .none)) { s with heap := h', toks := tk }) :
    codeAny (model prog w) A (.call (.ref 117) ⟨[.ref l, .int 0 t0, .int pos tp], []⟩) R s := by
  refine enterX S.unhide (by rfl) (by rfl) hroom (BindsTo.of_eq rfl) (locs rfl) fun h₁ A' m0 tk0 T _ huA _ hm0 F0 hT hTn => ?_
  have mh : m0 "heap" = some (.ref l) := hm0 _
  have mst : m0 "startpos" = some (.int 0 t0) := hm0 _
  have mpo : m0 "pos" = some (.int pos tp) := hm0 _
  clear hm0 hT
  obtain ⟨F, N⟩ := hidden F0 hl
  have hlL := (N _ (.head _)).2.1
  have hl0 := (N _ (.head _)).2.2
  generalize hg : s.heap.hide l = g at *
  generalize hLs : s.heap.objs.size = L at *
  refine wpAny_execs_cons (wpAny_Assign_Name (Subscript_ (ld F mh (ld F mpo (item_at (N _ (.head _)).1 (Int.natCast_nonneg _) (n63 hp hsz) (pick hp) (stN (s := { s with heap := h₁, toks := _ }) F N fun h2 F2 N2 => ?_))))))
  refine wpAny_execs_cons (wpAny_mono (Q := SdQ g L l s (zs.getD pos dZ) (siftdownL ltZ dZ zs pos)) (E := fun _ _ => False) ?_ ?_ fun _ _ x => x)
  · have hnew : IsPair g (zs.getD pos dZ).1 (zs.getD pos dZ).2 := hz _ (getD_mem hp)
    refine While_inv2 (s := { s with heap := h2, toks := _ }) (SdJ g l t0 (zs.getD pos dZ) (siftdownL ltZ dZ zs pos)) F2 N2 ⟨zs, pos, ep, tp, rfl, mh, mst, mpo, rfl, hp, hsz, Nat.le_refl _, hz, rfl⟩ ?_ PassesOwn.never
    intro n m1 news1 h3 tk3 F3 N3 hJ3
    refine wpAny_hide fun T1 hT1 => ?_
    obtain ⟨ys, f, ep3, tp3, rfl, e1, e2, e3, e4, hn, hys, hf, hy, htar⟩ := hJ3
    refine wpAny_isTrue_Compare1 (ld F3 e3 (ld F3 e2 (gt_int (wpAny_truthy_bool ?_))))
    by_cases hn0 : n = 0
    · subst hn0
      refine hT1 _ _ (itF (decide_eq_false (Int.lt_irrefl _)) ?_)
      refine ⟨rfl, h3, tk3, m1, ys, 0, ep3, tp3, rfl, F3, N3, e1, e3, e4, hn, hys, ?_⟩
      rw [← htar]
      cases f <;> simp [sd]
    · refine hT1 _ _ (itT (decide_eq_true (Int.ofNat_lt.mpr (Nat.pos_of_ne_zero hn0))) (wpAny_hide fun T2 hT2 => ?_))
      obtain ⟨f, rfl⟩ : ∃ f', f = f' + 1 := ⟨f - 1, by lia⟩
      have hpp : (n - 1) / 2 < ys.length := by lia
      refine wpAny_execs_cons (wpAny_Assign_Name (wpAny_BinOp (wpAny_BinOp (ld F3 e3 (wpAny_Constant_int (sub_int (wpAny_Constant_int (wpAny_rshift1_int (by lia) (stN (s := { s with heap := h3, toks := _ }) F3 N3 fun h4 F4 N4 => ?_)))))))))
      have ecast : (((n : Int) - 1) / 2) = (((n - 1) / 2 : Nat) : Int) := by lia
      refine wpAny_execs_cons (wpAny_Assign_Name (Subscript_ (ld F4 e1 (ld F4 rfl (item_at (N4 _ (.head _)).1 (by rw [ecast]; exact Int.natCast_nonneg _) (by rw [ecast]; exact n63 hpp hys) (by rw [ecast]; exact pick hpp) (stN (s := { s with heap := h4, toks := _ }) F4 N4 fun h5 F5 N5 => ?_))))))
      have hpar : IsPair g (ys.getD ((n - 1) / 2) dZ).1 (ys.getD ((n - 1) / 2) dZ).2 := hy _ (getD_mem hpp)
      refine wpAny_execs_cons (wpAny_If (wpAny_isTrue_Compare1 (ld F5 e4 (ld F5 rfl (lt_pair (less0 (n := 7) (by rw [huA]; exact hu)) (hnew.keeps F5.keep) (hpar.keeps F5.keep) (wpAny_truthy_bool ?_))))))
      unfold sd at htar
      rw [if_neg hn0] at htar
      by_cases hlt : ltP (zs.getD pos dZ).2 (ys.getD ((n - 1) / 2) dZ).2 = true
      · have hlt' : ltZ (zs.getD pos dZ) (ys.getD ((n - 1) / 2) dZ) = true := hlt
        rw [if_pos hlt'] at htar
        refine itT hlt ?_
        refine wpAny_execs_cons (wpAny_Assign_Subscript (ld F5 rfl (ld F5 e1 (ld F5 e3 (setItem_at (s := { s with heap := h5, toks := _ }) (N5 _ (.head _)).1 (Int.natCast_nonneg _) (n63 hn hys) (nLt hn) fun h6 hs6 ho6 => ?_)))))
        have F6 := F5.change hs6 hlL hl0
        have N6 : News g L h6 [(l, lo ((ys.map (·.1)).set ((n : Int)).toNat (ys.getD ((n - 1) / 2) dZ).1) ep3)] := N5.setHead (fun _ hp => nomatch hp) hs6 ho6
        rw [map_setZ] at N6
        refine wpAny_execs_cons (wpAny_Assign_Name (ld F6 rfl (stN (s := { s with heap := h6, toks := _ }) F6 N6 fun h7 F7 N7 => ?_)))
        refine wpAny_execs_cons (wpAny_Continue ?_)
        refine hT2 .cont _ ⟨h7, _, _, _, (n - 1) / 2, rfl, F7, N7, by lia, ys.set n (ys.getD ((n - 1) / 2) dZ), f, ep3, _, rfl, e1, e2, (by rw [← ecast]; rfl), e4, (by rw [List.length_set]; exact hpp), (by rw [List.length_set]; exact hys), by lia, (fun y hm => ?_), htar⟩
        rcases List.mem_or_eq_of_mem_set hm with hm | rfl
        · exact hy y hm
        · exact hpar
      · have hlt' : ¬ ltZ (zs.getD pos dZ) (ys.getD ((n - 1) / 2) dZ) = true := hlt
        rw [if_neg hlt'] at htar
        refine itF (Bool.eq_false_iff.mpr hlt) ?_
        refine wpAny_execs_nil (wpAny_execs_cons (wpAny_Break ?_))
        exact hT2 .brk _ ⟨rfl, h5, _, _, ys, n, ep3, tp3, rfl, F5, N5, e1, e3, e4, hn, hys, htar⟩
  · rintro fl s' ⟨rfl, h3, tk3, m3, ys, n, ep3, tp3, rfl, F3, N3, e1, e3, e4, hn, hys, htar⟩
    refine wpAny_execs_cons (wpAny_Assign_Subscript (ld F3 e4 (ld F3 e1 (ld F3 e3 (setItem_at (s := { s with heap := h3, toks := _ }) (N3 _ (.head _)).1 (Int.natCast_nonneg _) (n63 hn hys) (nLt hn) fun h4 hs4 ho4 => ?_)))))
    have F4 := F3.change hs4 hlL hl0
    refine wpAny_execs_nil (hTn _ (h h4 _ ep3 (fun b o hb e => ?_) ?_))
    · refine F4.keep b o ?_
      rw [← hg, Heap.hide_ne _ (fun q => hb (by simp [q]))]
      exact e
    · rw [ho4, map_setZ]
      show some (lo ((ys.set n (zs.getD pos dZ)).map (·.1)) ep3) = _
      rw [htar]


theorem glob {w : World} {M : Model} {A : Around} {E : Value → Shared → Prop} {s : Shared} {g : Heap} {L a : Addr} {m mg mb : Str → Option Value} {cn : Str} {cs : Scope} {ccd : Value}
    {x : Str} {pos : Pos} {v : Value} {Q : Value → Shared → Prop} (F : Fr g L s.heap m) (S : Site w mg mb g) (e : nsIn (KK w) mainGlobals x = some (some v)) (h : Q v s)
    (hk : cs.kind = .function := by rfl) (hx : (envOf cn cs L a ccd).kindOf x = some .globalImplicit := by rfl) (hd : (x == ("__debug__" : Str)) = false := by decide) :
    wpAny M A (eval (.Name x pos) (envOf cn cs L a ccd)) Q E s := name_K F S.X S.T e h hk hx hd
theorem globB {w : World} {M : Model} {A : Around} {E : Value → Shared → Prop} {s : Shared} {g : Heap} {L a : Addr} {m mg mb : Str → Option Value} {cn : Str} {cs : Scope} {ccd : Value}
    {x : Str} {pos : Pos} {v : Value} {Q : Value → Shared → Prop} (F : Fr g L s.heap m) (S : Site w mg mb g) (e : nsIn (KK w) mainGlobals x = some none) (hv : bootBuiltins x = some v) (hn : x ≠ "__name__") (h : Q v s)
    (hk : cs.kind = .function := by rfl) (hx : (envOf cn cs L a ccd).kindOf x = some .globalImplicit := by rfl) (hd : (x == ("__debug__" : Str)) = false := by decide) :
    wpAny M A (eval (.Name x pos) (envOf cn cs L a ccd)) Q E s := name_B F S.X S.T e hv hn h hk hx hd
theorem boot_len : bootBuiltins "len" = some (.builtin "len") := by boot_by_name

theorem len_at {prog : Program} {w : World} {A : Around} {E : Value → Shared → Prop} {s : Shared} {l : Addr} {vs : List Value} {n : Nat} {Q : Value → Shared → Prop} (ho : s.heap.get? l = some (lo vs n)) (hfit : vs.length < 2 ^ 60)
    (h : Q (.int vs.length (s.toks + 1)) { s with toks := s.toks + 1 + 1 }) : wpAny (model prog w) A (call (.builtin "len") [.ref l]) Q E s :=
  call_len_list (isList_of ho) (by rw [List.size_toArray]; lia) (by rw [List.size_toArray]; exact h)

theorem stT {M : Model} {A : Around} {E : Value → Shared → Prop} {s : Shared} {name : Str} {scope : Scope} {L a : Addr} {cd : Value} {h₀ : Heap} {m : Str → Option Value} {news : List (Addr × Obj)}
    {x : Str} {v : Value} {Q : Unit → Shared → Prop} (F : Fr h₀ L s.heap m) (N : News h₀ L s.heap news)
    (h : ∀ h' tk, Fr h₀ L h' (fun y => if y = x then some v else m y) → News h₀ L h' news → Q () { s with heap := h', toks := tk })
    (hk : scope.kind = .function := by rfl) (hl : (envOf name scope L a cd).kindOf x = some .local := by rfl) :
    wpAny M A (storeName (envOf name scope L a cd) x v) Q E s := stN F N (fun h' F' N' => h h' _ F' N') hk hl

theorem stI {M : Model} {A : Around} {E : Value → Shared → Prop} {s : Shared} {name : Str} {scope : Scope} {L a : Addr} {cd : Value} {h₀ : Heap} {m : Str → Option Value} {news : List (Addr × Obj)}
    {x : Str} {i : Int} {t : Tok} {Q : Unit → Shared → Prop} (F : Fr h₀ L s.heap m) (N : News h₀ L s.heap news)
    (h : ∀ h' tk t', Fr h₀ L h' (fun y => if y = x then some (.int i t') else m y) → News h₀ L h' news → Q () { s with heap := h', toks := tk })
    (hk : scope.kind = .function := by rfl) (hl : (envOf name scope L a cd).kindOf x = some .local := by rfl) :
    wpAny M A (storeName (envOf name scope L a cd) x (.int i t)) Q E s := stN F N (fun h' F' N' => h h' _ t F' N') hk hl
theorem stS {M : Model} {A : Around} {E : Value → Shared → Prop} {s : Shared} {name : Str} {scope : Scope} {L a : Addr} {cd : Value} {h₀ : Heap} {m : Str → Option Value} {news : List (Addr × Obj)}
    {x : Str} {i : Str} {t : Tok} {Q : Unit → Shared → Prop} (F : Fr h₀ L s.heap m) (N : News h₀ L s.heap news)
    (h : ∀ h' tk t', Fr h₀ L h' (fun y => if y = x then some (.str i t') else m y) → News h₀ L h' news → Q () { s with heap := h', toks := tk })
    (hk : scope.kind = .function := by rfl) (hl : (envOf name scope L a cd).kindOf x = some .local := by rfl) :
    wpAny M A (storeName (envOf name scope L a cd) x (.str i t)) Q E s := stN F N (fun h' F' N' => h h' _ t F' N') hk hl

theorem su_succ {α : Type} {lt : α → α → Bool} {d : α} {f : Nat} {zs : List α} {pos : Nat} : su lt d (f + 1) zs pos = if 2 * pos + 1 < zs.length then su lt d f (zs.set pos (zs.getD (suChild lt d zs (2 * pos + 1)) d)) (suChild lt d zs (2 * pos + 1)) else (zs, pos) := rfl
theorem su_length {α : Type} {lt : α → α → Bool} {d : α} : ∀ (f : Nat) (zs : List α) (pos : Nat), (su lt d f zs pos).1.length = zs.length
  | 0, zs, pos => rfl
  | f + 1, zs, pos => by
    unfold su
    split
    · rw [su_length]; simp
    · rfl
theorem suChild_lt {α : Type} {lt : α → α → Bool} {d : α} {zs : List α} {c : Nat} (h : c < zs.length) : suChild lt d zs c < zs.length ∧ c ≤ suChild lt d zs c := by
  unfold suChild; split <;> lia
theorem su_pos {α : Type} {lt : α → α → Bool} {d : α} : ∀ (f : Nat) (zs : List α) (pos : Nat), pos < zs.length → (su lt d f zs pos).2 < zs.length
  | 0, zs, pos, h => h
  | f + 1, zs, pos, h => by
    unfold su
    split
    · rename_i hc
      have := su_pos (lt := lt) (d := d) f (zs.set pos (zs.getD (suChild lt d zs (2 * pos + 1)) d)) (suChild lt d zs (2 * pos + 1)) (by rw [List.length_set]; exact (suChild_lt hc).1)
      rwa [List.length_set] at this
    · exact h
theorem su_mem {α : Type} {lt : α → α → Bool} {d : α} {P : α → Prop} : ∀ (f : Nat) (zs : List α) (pos : Nat), (∀ z ∈ zs, P z) → ∀ z ∈ (su lt d f zs pos).1, P z
  | 0, zs, pos, h => h
  | f + 1, zs, pos, h => by
    unfold su
    split
    · rename_i hc
      refine su_mem f _ _ fun y hy => ?_
      rcases List.mem_or_eq_of_mem_set hy with hy | rfl
      · exact h y hy
      · exact h _ (getD_mem (suChild_lt hc).1)
    · exact h

inductive SuJ (g : Heap) (l : Addr) (new : Z) (len : Nat) (target : List Z × Nat) (n : Nat) (m : Str → Option Value) (news : List (Addr × Obj)) : Prop
  | mk (zs : List Z) (f ep pos : Nat) (te t0 tp tc : Tok) (r : news = [(l, lo (zs.map (·.1)) ep)] ∧ m "heap" = some (.ref l) ∧ m "endpos" = some (.int len te) ∧ m "startpos" = some (.int 0 t0) ∧ m "pos" = some (.int pos tp) ∧
    m "childpos" = some (.int (2 * pos + 1 : Nat) tc) ∧ m "newitem" = some new.1 ∧ zs.length = len ∧ n = len - pos ∧ pos < len ∧ n ≤ f ∧ (∀ z ∈ zs, IsPair g z.1 z.2) ∧ su ltZ dZ f zs pos = target)
inductive SuC (g : Heap) (L l : Addr) (s : Shared) (ys : List Z) (ep len : Nat) (te t0 : Tok) (pos : Nat) (tp : Tok) (new : Value) (fl : Flow) (s' : Shared) : Prop
  | mk (e : fl = .next) (h' : Heap) (tk : Nat) (m' : Str → Option Value) (t' : Tok) (r : s' = { s with heap := h', toks := tk } ∧ Fr g L h' m' ∧ News g L h' [(l, lo (ys.map (·.1)) ep)] ∧
      m' "heap" = some (.ref l) ∧ m' "endpos" = some (.int len te) ∧ m' "startpos" = some (.int 0 t0) ∧ m' "pos" = some (.int pos tp) ∧ m' "newitem" = some new ∧ m' "childpos" = some (.int (suChild ltZ dZ ys (2 * pos + 1) : Nat) t'))
inductive SuQ (g : Heap) (L l : Addr) (s : Shared) (new : Z) (target : List Z × Nat) (f : Flow) (s' : Shared) : Prop
  | mk (e : f = .next) (h' : Heap) (tk : Nat) (m : Str → Option Value) (ep : Nat) (t0 tp : Tok) (r : s' = { s with heap := h', toks := tk } ∧ Fr g L h' m ∧ News g L h' [(l, lo (target.1.map (·.1)) ep)] ∧
    m "heap" = some (.ref l) ∧ m "startpos" = some (.int 0 t0) ∧ m "pos" = some (.int target.2 tp) ∧ m "newitem" = some new.1)

/-- after a call that turned l alone -/
theorem back {g h h' : Heap} {L l : Addr} {m : Str → Option Value} {o o' : Obj} (F : Fr g L h m) (N : News g L h [(l, o)]) (hk : Kept [l] h h') (ho : h'.get? l = some o') : Fr g L h' m ∧ News g L h' [(l, o')] := by
  have hlL := (N _ (.head _)).2.1
  have hl0 := (N _ (.head _)).2.2
  obtain ⟨oL, a1, a2, hL, a3⟩ := F.ns
  refine ⟨⟨⟨oL, a1, a2, hk L oL (fun q => hlL (List.mem_singleton.mp q).symm) hL, a3⟩, fun b x e => hk b x (fun q => ?_) (F.keep b x e), F.above⟩, fun p hp => ?_⟩
  · rw [List.mem_singleton.mp q, hl0] at e; cases e
  · rcases List.mem_singleton.mp hp with rfl
    exact ⟨ho, hlL, hl0⟩
/-- what stands in the base stands under the hidden list -/
theorem into {g h : Heap} {L l : Addr} {m : Str → Option Value} {o : Obj} (F : Fr g L h m) (N : News g L h [(l, o)]) : ∀ b x, g.get? b = some x → (h.hide l).get? b = some x := fun b x e => by
  have hl0 := (N _ (.head _)).2.2
  rw [Heap.hide_ne _ (fun q => by rw [q, hl0] at e; cases e)]
  exact F.keep b x e

theorem siftup_spec {prog : Program} {w : World} {A : Around} {s : Shared} {mg mb : Str → Option Value} {R : Result → Shared → Prop} {l : Addr} {zs : List Z} {ep : Nat} {tp : Tok}
    (S : Site w mg mb (s.heap.hide l)) (hroom : A.depth + 1 < recursionLimit) (hu : A.units + 20 < cLine) (hl : s.heap.get? l = some (lo (zs.map (·.1)) ep))
    (hz : ∀ z ∈ zs, IsPair (s.heap.hide l) z.1 z.2) (hp : 0 < zs.length) (hsz : zs.length < 2 ^ 58)
    (h : ∀ h' tk ep', Kept [l] s.heap h' → h'.get? l = some (lo ((siftupL ltZ dZ zs).map (·.1)) ep') → R (.ok (.ret .none)) { s with heap := h', toks := tk }) :
    codeAny (model prog w) A (.call (.ref 124) ⟨[.ref l, .int 0 tp], []⟩) R s := by
  refine enterX S.unhide (by rfl) (by rfl) (less0 hroom) (BindsTo.of_eq rfl) (locs rfl) fun h₁ A' m0 tk0 T hdA huA _ hm0 F0 hT hTn => ?_
  have mh : m0 "heap" = some (.ref l) := hm0 _
  have mpo : m0 "pos" = some (.int 0 tp) := hm0 _
  clear hm0 hT
  have hun : A'.units + 17 < cLine := by rw [huA]; exact hu
  have hs60 : zs.length < 2 ^ 60 := Nat.lt_trans hsz (by decide)
  obtain ⟨F, N⟩ := hidden F0 hl
  have hlL := (N _ (.head _)).2.1
  have hl0 := (N _ (.head _)).2.2
  generalize hg : s.heap.hide l = g at *
  generalize hLs : s.heap.objs.size = L at *
  refine wpAny_execs_cons (wpAny_Assign_Name (Call_ (globB F S (by rfl) boot_len (by decide) (callWith_builtin1 (spliced_more (ld F mh (spliced_none ?_)))))))
  refine len_at (s := { s with heap := h₁, toks := _ }) (N _ (.head _)).1 (by rw [List.length_map]; exact hs60) (stI (s := { s with heap := h₁, toks := _ }) F N fun h2 k2 t2 F2 N2 => ?_)
  rw [List.length_map] at F2
  refine wpAny_execs_cons (wpAny_Assign_Name (ld F2 mpo (stI (s := { s with heap := h2, toks := _ }) F2 N2 fun h3 k3 t3 F3 N3 => ?_)))
  refine wpAny_execs_cons (wpAny_Assign_Name (Subscript_ (ld F3 mh (ld F3 mpo (item_at (N3 _ (.head _)).1 (Int.le_refl _) (by decide) (pick hp) (stT (s := { s with heap := h3, toks := _ }) F3 N3 fun h4 k4 F4 N4 => ?_))))))
  refine wpAny_execs_cons (wpAny_Assign_Name (wpAny_BinOp (wpAny_BinOp (wpAny_Constant_int (ld (s := { s with heap := h4, toks := _ }) F4 mpo (mul_int (wpAny_Constant_int (add_int (stI (s := { s with heap := h4, toks := _ }) F4 N4 fun h5 k5 t5 F5 N5 => ?_)))))))))
  refine wpAny_execs_cons (wpAny_mono (Q := SuQ g L l s (zs.getD 0 dZ) (su ltZ dZ zs.length zs 0)) (E := fun _ _ => False) ?_ ?_ fun _ _ x => x)
  · refine While_inv2 (s := { s with heap := h5, toks := _ }) (SuJ g l (zs.getD 0 dZ) zs.length (su ltZ dZ zs.length zs 0)) F5 N5 (n₀ := zs.length) ⟨zs, zs.length, ep, 0, _, _, _, _, rfl, mh, rfl, rfl, mpo, rfl, rfl, rfl, rfl, hp, Nat.le_refl _, hz, rfl⟩ ?_ PassesOwn.never
    intro n m1 news1 h6 tk6 F6 N6 hJ6
    refine wpAny_hide fun T1 hT1 => ?_
    obtain ⟨ys, f, ep6, pos, te, t0, tp6, tc, rfl, e1, e2, e3, e4, e5, e6, hlen, rfl, hpos, hf, hy, htar⟩ := hJ6
    refine wpAny_isTrue_Compare1 (ld F6 e5 (ld F6 e2 (lt_int (wpAny_truthy_bool ?_))))
    obtain ⟨f, rfl⟩ : ∃ f', f = f' + 1 := ⟨f - 1, by lia⟩
    rw [su_succ] at htar
    by_cases hc : 2 * pos + 1 < ys.length
    · rw [if_pos hc] at htar
      refine hT1 _ _ (itT (decide_eq_true (Int.ofNat_lt.mpr (hlen ▸ hc))) (wpAny_hide fun T2 hT2 => ?_))
      have h60 : ys.length < 2 ^ 60 := by rw [hlen]; exact hs60
      have ec1 : (((2 * pos + 1 : Nat) : Int) + 1) = ((2 * pos + 1 + 1 : Nat) : Int) := rfl
      have hcl := suChild_lt (lt := ltZ) (d := dZ) hc
      refine wpAny_execs_cons (wpAny_Assign_Name (wpAny_BinOp (ld F6 e5 (wpAny_Constant_int (add_int (stI (s := { s with heap := h6, toks := _ }) F6 N6 fun h7 k7 t7 F7 N7 => ?_))))))
      -- the child
      refine wpAny_execs_cons (wpAny_mono (Q := SuC g L l s ys ep6 zs.length te t0 pos tp6 (zs.getD 0 dZ).1) (E := fun _ _ => False) ?_ ?_ fun _ _ x => x)
      · refine wpAny_If (isTrue_and (wpAny_isTrue_Compare1 (ld F7 rfl (ld F7 e2 (lt_int (wpAny_truthy_bool ?_))))))
        by_cases hr : 2 * pos + 1 + 1 < ys.length
        · refine itT (decide_eq_true (by rw [ec1, ← hlen]; exact Int.ofNat_lt.mpr hr)) ?_
          refine isTrue_and (isTrue_not (wpAny_isTrue_Compare1 (Subscript_ (ld F7 e1 (ld F7 e5 (item_at (N7 _ (.head _)).1 (Int.natCast_nonneg _) (n63 hc h60) (pick hc) ?_))))))
          refine Subscript_ (ld F7 e1 (ld F7 rfl (item_at (N7 _ (.head _)).1 (by rw [ec1]; exact Int.natCast_nonneg _) (by rw [ec1]; exact n63 hr h60) (by rw [ec1]; exact pick hr) ?_)))
          refine lt_pair (less0 hun) ((hy _ (getD_mem hc)).keeps F7.keep) ((hy _ (getD_mem hr)).keeps F7.keep) (wpAny_truthy_bool ?_)
          by_cases hlt : ltP (ys.getD (2 * pos + 1) dZ).2 (ys.getD (2 * pos + 1 + 1) dZ).2 = true
          · refine itF (by rw [hlt, Bool.not_true]) ?_
            refine itF rfl ?_
            refine wpAny_execs_nil ⟨rfl, h7, _, _, tc, rfl, F7, N7, e1, e2, e3, e4, e6, ?_⟩
            have : suChild ltZ dZ ys (2 * pos + 1) = 2 * pos + 1 := by
              unfold suChild; rw [if_neg]; intro q; have q2 : ltP _ _ = false := q.2; rw [hlt] at q2; cases q2
            rw [this]; exact e5
          · have hlt' := Bool.eq_false_iff.mpr hlt
            refine itT (by rw [hlt', Bool.not_false]) ?_
            refine isTrue_and_nil ?_
            refine itT rfl ?_
            refine wpAny_execs_cons (wpAny_Assign_Name (ld F7 rfl (stI (s := { s with heap := h7, toks := _ }) F7 N7 fun h8 k8 t8 F8 N8 => ?_)))
            refine wpAny_execs_nil ⟨rfl, h8, _, _, t8, rfl, F8, N8, e1, e2, e3, e4, e6, ?_⟩
            have : suChild ltZ dZ ys (2 * pos + 1) = 2 * pos + 1 + 1 := by
              unfold suChild; rw [if_pos ⟨hr, hlt'⟩]
            rw [this]
            exact congrArg (fun i => some (Value.int i _)) ec1
        · refine itF (decide_eq_false (by rw [ec1, ← hlen]; exact fun q => hr (Int.ofNat_lt.mp q))) ?_
          refine itF rfl ?_
          refine wpAny_execs_nil ⟨rfl, h7, _, _, tc, rfl, F7, N7, e1, e2, e3, e4, e6, ?_⟩
          have : suChild ltZ dZ ys (2 * pos + 1) = 2 * pos + 1 := by
            unfold suChild; rw [if_neg]; intro q; exact hr q.1
          rw [this]; exact e5
      · rintro fl s' ⟨rfl, h8, tk8, m8, t8, rfl, F8, N8, e1, e2, e3, e4, e6, e5⟩
        dsimp only
        generalize hC : suChild ltZ dZ ys (2 * pos + 1) = c at *
        refine wpAny_execs_cons (wpAny_Assign_Subscript (Subscript_ (ld F8 e1 (ld F8 e5 (item_at (N8 _ (.head _)).1 (Int.natCast_nonneg _) (n63 hcl.1 h60) (pick hcl.1) (ld F8 e1 (ld F8 e4 (setItem_at (s := { s with heap := h8, toks := _ }) (N8 _ (.head _)).1 (Int.natCast_nonneg _) (n63 (hlen ▸ hpos) h60) (nLt (hlen ▸ hpos)) fun h9 hs9 ho9 => ?_))))))))
        have F9 := F8.change hs9 hlL hl0
        have N9 : News g L h9 [(l, lo ((ys.map (·.1)).set ((pos : Int)).toNat (ys.getD c dZ).1) ep6)] := N8.setHead (fun _ hp => nomatch hp) hs9 ho9
        rw [map_setZ] at N9
        refine wpAny_execs_cons (wpAny_Assign_Name (ld F9 e5 (stI (s := { s with heap := h9, toks := _ }) F9 N9 fun h10 k10 t10 F10 N10 => ?_)))
        refine wpAny_execs_cons (wpAny_Assign_Name (wpAny_BinOp (wpAny_BinOp (wpAny_Constant_int (ld (s := { s with heap := h10, toks := _ }) F10 rfl (mul_int (wpAny_Constant_int (add_int (stI (s := { s with heap := h10, toks := _ }) F10 N10 fun h11 k11 t11 F11 N11 => ?_)))))))))
        refine wpAny_execs_nil (hT2 .next _ ⟨h11, _, _, _, zs.length - c, rfl, F11, N11, by lia, ys.set pos (ys.getD c dZ), f, ep6, c, te, t0, t10, t11, rfl, e1, e2, e3, rfl, ?_, e6, (by rw [List.length_set]; exact hlen), rfl, by lia, by lia, (fun y hm => ?_), htar⟩)
        · exact congrArg (fun i => some (Value.int i _)) (show 2 * (c : Int) + 1 = ((2 * c + 1 : Nat) : Int) by lia)
        · rcases List.mem_or_eq_of_mem_set hm with hm | rfl
          · exact hy y hm
          · exact hy _ (getD_mem hcl.1)
    · rw [if_neg hc] at htar
      refine hT1 _ _ (itF (decide_eq_false (by rw [← hlen]; exact fun q => hc (Int.ofNat_lt.mp q))) ?_)
      rw [← htar]
      exact ⟨rfl, h6, tk6, m1, ep6, t0, tp6, rfl, F6, N6, e1, e3, e4, e6⟩
  · rintro fl s' ⟨rfl, h6, tk6, m6, ep6, t0, tp6, rfl, F6, N6, e1, e3, e4, e6⟩
    dsimp only
    have hlen := su_length (lt := ltZ) (d := dZ) zs.length zs 0
    have hpos := su_pos (lt := ltZ) (d := dZ) zs.length zs 0 hp
    have hmem := su_mem (lt := ltZ) (d := dZ) zs.length zs 0 hz
    have hres : siftupL ltZ dZ zs = siftdownL ltZ dZ ((su ltZ dZ zs.length zs 0).1.set (su ltZ dZ zs.length zs 0).2 (zs.getD 0 dZ)) (su ltZ dZ zs.length zs 0).2 := rfl
    rw [hres] at h
    generalize su ltZ dZ zs.length zs 0 = r at *
    refine wpAny_execs_cons (wpAny_Assign_Subscript (ld F6 e6 (ld F6 e1 (ld F6 e4 (setItem_at (s := { s with heap := h6, toks := _ }) (N6 _ (.head _)).1 (Int.natCast_nonneg _) (n63 hpos hs60) (nLt (zs := r.1) (by rw [hlen]; exact hpos)) fun h7 hs7 ho7 => ?_)))))
    have F7 := F6.change hs7 hlL hl0
    have N7 : News g L h7 [(l, lo ((r.1.map (·.1)).set ((r.2 : Int)).toNat (zs.getD 0 dZ).1) ep6)] := N6.setHead (fun _ hp => nomatch hp) hs7 ho7
    rw [map_setZ] at N7
    refine wpAny_execs_cons (wpAny_Expr (Call_ (glob F7 S (by rfl) (callWith_K S.X (by rfl) (spliced_more (ld F7 e1 (spliced_more (ld F7 e3 (spliced_more (ld F7 e4 (spliced_none ⟨S.X.keeps F7.keep, wpAny_call ?_⟩)))))))))))
    have hin := into F7 N7
    refine siftdown_spec (s := { s with heap := h7, toks := _ }) (S.keeps hin) (by rw [hdA]; exact hroom) (lessN hun) (N7 _ (.head _)).1 (fun z hm => ?_) (by rw [List.length_set, hlen]; exact hpos) (by rw [List.length_set, hlen]; exact hs60) fun h8 tk8 ep8 hk8 ho8 => ?_
    · refine IsPair.keeps ?_ hin
      rcases List.mem_or_eq_of_mem_set hm with hm | rfl
      · exact hmem z hm
      · exact hz _ (getD_mem hp)
    · obtain ⟨F8, N8⟩ := back F7 N7 hk8 ho8
      refine wpAny_execs_nil (hTn _ (h h8 _ ep8 (fun b o hb e => ?_) ho8))
      refine F8.keep b o ?_
      rw [← hg, Heap.hide_ne _ (fun q => hb (by simp [q]))]
      exact e


theorem heappush_spec {prog : Program} {w : World} {A : Around} {s : Shared} {mg mb : Str → Option Value} {R : Result → Shared → Prop} {l : Addr} {zs : List Z} {z : Z} {ep : Nat}
    (S : Site w mg mb (s.heap.hide l)) (hroom : A.depth + 1 < recursionLimit) (hu : A.units + 20 < cLine) (hl : s.heap.get? l = some (lo (zs.map (·.1)) ep))
    (hz : ∀ z ∈ zs, IsPair (s.heap.hide l) z.1 z.2) (hz1 : IsPair (s.heap.hide l) z.1 z.2) (hsz : zs.length < 1000)
    (h : ∀ h' tk ep', Kept [l] s.heap h' → h'.get? l = some (lo ((hpush ltZ dZ zs z).map (·.1)) ep') → R (.ok (.ret .none)) { s with heap := h', toks := tk }) :
    codeAny (model prog w) A (.call (.ref 103) ⟨[.ref l, z.1], []⟩) R s := by
  refine enterX S.unhide (by rfl) (by rfl) (by lia) (BindsTo.of_eq rfl) (locs rfl) fun h₁ A' m0 tk0 T hdA huA _ hm0 F0 hT hTn => ?_
  have mh : m0 "heap" = some (.ref l) := hm0 _
  have mi : m0 "item" = some z.1 := hm0 _
  clear hm0 hT
  obtain ⟨F, N⟩ := hidden F0 hl
  have hlL := (N _ (.head _)).2.1
  have hl0 := (N _ (.head _)).2.2
  generalize hg : s.heap.hide l = g at *
  generalize hLs : s.heap.objs.size = L at *
  refine wpAny_execs_cons (wpAny_Expr (MethodCall_ (ld F mh (getMethod_list_append (N _ (.head _)).1 rfl rfl (callWith_method1 (spliced_more (ld F mi (spliced_none ?_))))))))
  refine append_at (s := { s with heap := h₁, toks := _ }) (N _ (.head _)).1 (fun h2 hs2 ho2 => ?_) (by rw [List.size_toArray, List.length_map, sizeLine_eq]; lia)
  have F2 := F.change hs2 hlL hl0
  have e2 : ((zs.map (·.1)).toArray.push z.1) = ((zs ++ [z]).map (·.1)).toArray := by simp
  rw [e2] at ho2
  have N2 : News g L h2 [(l, lo ((zs ++ [z]).map (·.1)) (ep + 1))] := N.setHead (fun _ hp => nomatch hp) hs2 ho2
  have hin := into F2 N2
  refine wpAny_execs_cons (wpAny_Expr (Call_ (glob F2 S (by rfl) (callWith_K S.X (by rfl) (spliced_more (ld F2 mh (spliced_more (wpAny_Constant_int (spliced_more (wpAny_BinOp (Call_ (globB (s := { s with heap := h2, toks := _ }) F2 S (by rfl) boot_len (by decide) (callWith_builtin1 (spliced_more (ld (s := { s with heap := h2, toks := _ }) F2 mh (spliced_none ?_))))))))))))))))
  refine len_at (s := { s with heap := h2, toks := _ }) (N2 _ (.head _)).1 (by simp only [List.length_map, List.length_append, List.length_singleton]; lia) (wpAny_Constant_int (sub_int (spliced_none ⟨S.X.keeps F2.keep, wpAny_call ?_⟩)))
  have elen : (((zs ++ [z]).map (·.1)).length : Int) - 1 = (zs.length : Nat) := by simp
  rw [elen]
  refine siftdown_spec (s := { s with heap := h2, toks := _ }) (S.keeps hin) (by lia) (by lia) (N2 _ (.head _)).1 (fun y hm => ?_) (by simp) (by simp; lia) fun h3 tk3 ep3 hk3 ho3 => ?_
  · refine IsPair.keeps ?_ hin
    rcases List.mem_append.mp hm with hm | hm
    · exact hz y hm
    · rw [List.mem_singleton.mp hm]; exact hz1
  · obtain ⟨F3, N3⟩ := back F2 N2 hk3 ho3
    refine wpAny_execs_nil (hTn _ (h h3 _ ep3 (fun b o hb e => ?_) ho3))
    refine F3.keep b o ?_
    rw [← hg, Heap.hide_ne _ (fun q => hb (by simp [q]))]
    exact e

theorem heappop_spec {prog : Program} {w : World} {A : Around} {s : Shared} {mg mb : Str → Option Value} {R : Result → Shared → Prop} {l : Addr} {zs : List Z} {ep : Nat}
    (S : Site w mg mb (s.heap.hide l)) (hroom : A.depth + 2 < recursionLimit) (hu : A.units + 30 < cLine) (hl : s.heap.get? l = some (lo (zs.map (·.1)) ep))
    (hz : ∀ z ∈ zs, IsPair (s.heap.hide l) z.1 z.2) (hne : zs ≠ []) (hsz : zs.length < 1000)
    (h : ∀ h' tk ep', Kept [l] s.heap h' → h'.get? l = some (lo ((hpop ltZ dZ zs).2.map (·.1)) ep') → R (.ok (.ret (hpop ltZ dZ zs).1.1)) { s with heap := h', toks := tk }) :
    codeAny (model prog w) A (.call (.ref 110) ⟨[.ref l], []⟩) R s := by
  obtain ⟨ys, y, rfl⟩ : ∃ ys y, zs = ys ++ [y] := ⟨zs.dropLast, zs.getLast hne, (List.dropLast_concat_getLast hne).symm⟩
  refine enterX S.unhide (by rfl) (by rfl) (less0 hroom) (BindsTo.of_eq rfl) (locs rfl) fun h₁ A' m0 tk0 T hdA huA _ hm0 F0 hT _ => ?_
  have mh : m0 "heap" = some (.ref l) := hm0 _
  clear hm0
  have hdp : A'.depth + 1 < recursionLimit := by rw [hdA]; exact hroom
  have hun : A'.units + 27 < cLine := by rw [huA]; exact hu
  obtain ⟨F, N⟩ := hidden F0 hl
  have hlL := (N _ (.head _)).2.1
  have hl0 := (N _ (.head _)).2.2
  generalize hg : s.heap.hide l = g at *
  generalize hLs : s.heap.objs.size = L at *
  have hd : hpop ltZ dZ (ys ++ [y]) = if ys = [] then (y, []) else (ys.getD 0 dZ, siftupL ltZ dZ (ys.set 0 y)) := by
    unfold hpop; simp
  rw [hd] at h
  refine wpAny_execs_cons (wpAny_Assign_Name (MethodCall_ (ld F mh (kl_method N (.head _) PySem.F.slot_list_pop PySem.F.type_list_pop (callWith_method0 ?_)))))
  refine kl_pop (s := { s with heap := h₁, toks := _ }) F N (p := ys.map (·.1)) (y := y.1) (by simp only [List.map_append, List.map_cons, List.map_nil]; exact kpa_last _ _) (Upd.head fun _ hp => nomatch hp) (by simp only [List.length_map, List.length_append, List.length_singleton] at hsz ⊢; rw [sizeLine_eq]; lia) fun h2 F2 N2 => ?_
  refine stT (s := { s with heap := h2, toks := _ }) F2 N2 fun h3 k3 F3 N3 => ?_
  refine wpAny_execs_cons (wpAny_If (isTrue_plain (ld F3 mh (wpAny_truthy_list (isList_of (N3 _ (.head _)).1) (by simp only [List.size_toArray, List.length_map, List.length_append, List.length_singleton] at hsz ⊢; lia) ?_))))
  by_cases he : ys = []
  · subst he
    rw [if_pos rfl] at h
    simp only [List.map_nil, List.isEmpty_toArray, List.isEmpty_nil, Bool.not_true, Bool.false_eq_true, if_false]
    refine wpAny_execs_nil (wpAny_execs_cons (wpAny_Return_some (ld (s := { s with heap := h3, toks := _ }) F3 rfl (hT _ _ (h h3 _ _ (fun b o hb e => ?_) (N3 _ (.head _)).1)))))
    refine F3.keep b o ?_
    rw [← hg, Heap.hide_ne _ (fun q => hb (by simp [q]))]
    exact e
  · rw [if_neg he] at h
    have hpos : 0 < ys.length := List.length_pos_iff.mpr he
    have hnb : (!(ys.map (·.1)).toArray.isEmpty) = true := by
      cases ys with
      | nil => exact absurd rfl he
      | cons a r => rfl
    refine itT hnb ?_
    have hzy : ∀ z ∈ ys, IsPair g z.1 z.2 := fun z hm => hz z (List.mem_append_left _ hm)
    have hzl : IsPair g y.1 y.2 := hz y (List.mem_append_right _ (.head _))
    have hys : ys.length < 1000 := by rw [List.length_append] at hsz; lia
    refine wpAny_execs_cons (wpAny_Assign_Name (Subscript_ (ld (s := { s with heap := h3, toks := _ }) F3 mh (wpAny_Constant_int (item_at (N3 _ (.head _)).1 (Int.le_refl _) (by decide) (pick hpos) (stT (s := { s with heap := h3, toks := _ }) F3 N3 fun h4 k4 F4 N4 => ?_))))))
    refine wpAny_execs_cons (wpAny_Assign_Subscript (ld F4 rfl (ld F4 mh (wpAny_Constant_int (setItem_at (s := { s with heap := h4, toks := _ }) (N4 _ (.head _)).1 (Int.le_refl _) (by decide) (by rw [List.length_map]; exact Int.ofNat_lt.mpr hpos) fun h5 hs5 ho5 => ?_)))))
    have F5 := F4.change hs5 hlL hl0
    have N5 : News g L h5 [(l, lo ((ys.map (·.1)).set ((0 : Int)).toNat y.1) (ep + 1))] := N4.setHead (fun _ hp => nomatch hp) hs5 ho5
    rw [map_setZ] at N5
    have hin := into F5 N5
    refine wpAny_execs_cons (wpAny_Expr (Call_ (glob (s := { s with heap := h5, toks := _ }) F5 S (by rfl) (callWith_K S.X (by rfl) (spliced_more (ld (s := { s with heap := h5, toks := _ }) F5 mh (spliced_more (wpAny_Constant_int (spliced_none ⟨S.X.keeps F5.keep, wpAny_call ?_⟩)))))))))
    refine siftup_spec (s := { s with heap := h5, toks := _ }) (S.keeps hin) (lessN hdp) (lessN hun) (N5 _ (.head _)).1 (fun z hm => ?_) (by rw [List.length_set]; lia) (by rw [List.length_set]; lia) fun h6 tk6 ep6 hk6 ho6 => ?_
    · refine IsPair.keeps ?_ hin
      rcases List.mem_or_eq_of_mem_set hm with hm | rfl
      · exact hzy z hm
      · exact hzl
    · obtain ⟨F6, N6⟩ := back F5 N5 hk6 ho6
      refine wpAny_execs_cons (wpAny_Return_some (ld (s := { s with heap := h6, toks := _ }) F6 rfl (hT _ _ (h h6 _ ep6 (fun b o hb e => ?_) ho6))))
      refine F6.keep b o ?_
      rw [← hg, Heap.hide_ne _ (fun q => hb (by simp [q]))]
      exact e


noncomputable def oneIf (b : Bool) (x : Str) : List Str := if b then [x] else []
noncomputable def madeL (ls x : Str) : List Str :=
  oneIf (Txt.item ls 1 == Str.ofString "r") (escS 0 x) ++ oneIf (Txt.item ls 2 == Str.ofString "w") (escS 1 x) ++
  oneIf ([Str.ofString "x", Str.ofString "s"].any (· == Txt.item ls 3)) (escS 2 x) ++ oneIf ([Str.ofString "s", Str.ofString "S"].any (· == Txt.item ls 3)) (escS 3 x)

theorem strsAre_snoc {vs : List Value} {xs : List Str} (h : StrsAre vs xs) (x : Str) (t : Tok) : StrsAre (vs ++ [.str x t]) (xs ++ [x]) := by
  induction h with
  | nil => exact .cons x t .nil
  | cons y u _ ih => exact .cons y u ih
theorem strsAre_len {vs : List Value} {xs : List Str} (h : StrsAre vs xs) : vs.length = xs.length := by
  induction h with
  | nil => rfl
  | cons y u _ ih => simp [ih]

/-- a local stored: all else stands -/
theorem stK {M : Model} {A : Around} {E : Value → Shared → Prop} {s : Shared} {name : Str} {scope : Scope} {L a : Addr} {cd : Value} {h₀ : Heap} {m : Str → Option Value}
    {x : Str} {v : Value} {Q : Unit → Shared → Prop} (F : Fr h₀ L s.heap m)
    (h : ∀ h' tk, Fr h₀ L h' (fun y => if y = x then some v else m y) → (∀ b o, b ≠ L → s.heap.get? b = some o → h'.get? b = some o) → Q () { s with heap := h', toks := tk })
    (hk : scope.kind = .function := by rfl) (hl : (envOf name scope L a cd).kindOf x = some .local := by rfl) :
    wpAny M A (storeName (envOf name scope L a cd) x v) Q E s :=
  wpAny_storeName_local hl F.ns (fun h' hn hs => h h' _ (F.set hn hs) fun b o hb e => (hs.2 b hb).trans e)
    (by show (scope.kind == .class || (scope.kind == .module && L != mainGlobals)) = false; rw [hk]; rfl)
/-- a new list: all stands, and it is new -/
theorem newL {M : Model} {A : Around} {E : Value → Shared → Prop} {s : Shared} {L : Addr} {g : Heap} {m : Str → Option Value} {vs : List Value} {Q : Value → Shared → Prop} (F : Fr g L s.heap m) (hsz : vs.length ≤ 100000)
    (h : ∀ h' l, Fr g L h' m → (∀ b o, s.heap.get? b = some o → h'.get? b = some o) → h'.get? l = some (lo vs 0) → (∀ b o, s.heap.get? b = some o → b ≠ l) → l ≠ L → g.get? l = none → Q (.ref l) { s with heap := h' }) :
    wpAny M A (newList vs) Q E s :=
  wpAny_newObj_type (h _ _ (F.push _) (fun b o e => Heap.get?_push_of_some _ e) (Heap.get?_push_size _ rfl) (fun b o e => Nat.ne_of_lt (Heap.lt_size e)) (Nat.ne_of_gt F.ns.lt) (next_is_new F)) (by show vs.toArray.size ≤ sizeLine; rw [List.size_toArray, sizeLine_eq]; lia)

section flat
variable {M : Model} {A : Around} {E : Value → Shared → Prop} {hp : Heap} {gs : Array GenState} {dr : Drawn} {tk : Nat} {os : OsState}
theorem constS {env : Env} {x : Str} {k : Nat} {pos : Pos} {Q : Value → Shared → Prop} (h : ∀ t' tk', Q (.str x t') ⟨hp, gs, dr, tk', os⟩) : wpAny M A (eval (.Constant (.str x) k pos) env) Q E ⟨hp, gs, dr, tk, os⟩ := wpAny_Constant_str (h _ _)
theorem constI {env : Env} {i : Int} {k : Nat} {pos : Pos} {Q : Value → Shared → Prop} (h : ∀ t' tk', Q (.int i t') ⟨hp, gs, dr, tk', os⟩) : wpAny M A (eval (.Constant (.int i) k pos) env) Q E ⟨hp, gs, dr, tk, os⟩ := wpAny_Constant_int (h _ _)
theorem newF {L : Addr} {g : Heap} {m : Str → Option Value} {vs : List Value} {Q : Value → Shared → Prop} (F : Fr g L hp m) (hsz : vs.length ≤ 100000)
    (h : ∀ h' l, Fr g L h' m → (∀ b o, hp.get? b = some o → h'.get? b = some o) → h'.get? l = some (lo vs 0) → (∀ b o, hp.get? b = some o → b ≠ l) → l ≠ L → g.get? l = none → Q (.ref l) ⟨h', gs, dr, tk, os⟩) :
    wpAny M A (newList vs) Q E ⟨hp, gs, dr, tk, os⟩ := newL (s := ⟨hp, gs, dr, tk, os⟩) F hsz h
theorem stF {name : Str} {scope : Scope} {L a : Addr} {cd : Value} {h₀ : Heap} {m : Str → Option Value}
    {x : Str} {v : Value} {Q : Unit → Shared → Prop} (F : Fr h₀ L hp m)
    (h : ∀ h' tk', Fr h₀ L h' (fun y => if y = x then some v else m y) → (∀ b o, b ≠ L → hp.get? b = some o → h'.get? b = some o) → Q () ⟨h', gs, dr, tk', os⟩)
    (hk : scope.kind = .function := by rfl) (hl : (envOf name scope L a cd).kindOf x = some .local := by rfl) :
    wpAny M A (storeName (envOf name scope L a cd) x v) Q E ⟨hp, gs, dr, tk, os⟩ := stK (s := ⟨hp, gs, dr, tk, os⟩) F h hk hl
theorem ldF {name : Str} {scope : Scope} {L a : Addr} {cd : Value} {h₀ : Heap} {m : Str → Option Value} {x : Str} {pos : Pos} {v : Value} {Q : Value → Shared → Prop} (F : Fr h₀ L hp m) (hv : m x = some v) (h : Q v ⟨hp, gs, dr, tk, os⟩)
    (hk : scope.kind = .function := by rfl) (hl : (envOf name scope L a cd).kindOf x = some .local := by rfl)
    (hd : (x == ("__debug__" : Str)) = false := by decide) :
    wpAny M A (eval (.Name x pos) (envOf name scope L a cd)) Q E ⟨hp, gs, dr, tk, os⟩ := ld (s := ⟨hp, gs, dr, tk, os⟩) F hv h hk hl hd
end flat
section flat2
variable {prog : Program} {w : World} {A : Around} {E : Value → Shared → Prop} {hp : Heap} {gs : Array GenState} {dr : Drawn} {tk : Nat} {os : OsState}
theorem lenF {l : Addr} {vs : List Value} {n : Nat} {Q : Value → Shared → Prop} (ho : hp.get? l = some (lo vs n)) (hfit : vs.length < 2 ^ 60)
    (h : ∀ t' tk', Q (.int vs.length t') ⟨hp, gs, dr, tk', os⟩) : wpAny (model prog w) A (call (.builtin "len") [.ref l]) Q E ⟨hp, gs, dr, tk, os⟩ := len_at (s := ⟨hp, gs, dr, tk, os⟩) ho hfit (h _ _)
theorem globF {M : Model} {g : Heap} {L a : Addr} {m mg mb : Str → Option Value} {cn : Str} {cs : Scope} {ccd : Value}
    {x : Str} {pos : Pos} {v : Value} {Q : Value → Shared → Prop} (F : Fr g L hp m) (S : Site w mg mb g) (e : nsIn (KK w) mainGlobals x = some (some v)) (h : Q v ⟨hp, gs, dr, tk, os⟩)
    (hk : cs.kind = .function := by rfl) (hx : (envOf cn cs L a ccd).kindOf x = some .globalImplicit := by rfl) (hd : (x == ("__debug__" : Str)) = false := by decide) :
    wpAny M A (eval (.Name x pos) (envOf cn cs L a ccd)) Q E ⟨hp, gs, dr, tk, os⟩ := glob (s := ⟨hp, gs, dr, tk, os⟩) F S e h hk hx hd
theorem globBF {M : Model} {g : Heap} {L a : Addr} {m mg mb : Str → Option Value} {cn : Str} {cs : Scope} {ccd : Value}
    {x : Str} {pos : Pos} {v : Value} {Q : Value → Shared → Prop} (F : Fr g L hp m) (S : Site w mg mb g) (e : nsIn (KK w) mainGlobals x = some none) (hv : bootBuiltins x = some v) (hn : x ≠ "__name__") (h : Q v ⟨hp, gs, dr, tk, os⟩)
    (hk : cs.kind = .function := by rfl) (hx : (envOf cn cs L a ccd).kindOf x = some .globalImplicit := by rfl) (hd : (x == ("__debug__" : Str)) = false := by decide) :
    wpAny M A (eval (.Name x pos) (envOf cn cs L a ccd)) Q E ⟨hp, gs, dr, tk, os⟩ := globB (s := ⟨hp, gs, dr, tk, os⟩) F S e hv hn h hk hx hd
theorem subF {a b : Int} {t u : Tok} {Q : Value → Shared → Prop} (h : ∀ t' tk', Q (.int (a - b) t') ⟨hp, gs, dr, tk', os⟩) : wpAny (model prog w) A (binaryOp .Sub (.int a t) (.int b u)) Q E ⟨hp, gs, dr, tk, os⟩ := sub_int (h _ _)
theorem addF {a b : Int} {t u : Tok} {Q : Value → Shared → Prop} (h : ∀ t' tk', Q (.int (a + b) t') ⟨hp, gs, dr, tk', os⟩) : wpAny (model prog w) A (binaryOp .Add (.int a t) (.int b u)) Q E ⟨hp, gs, dr, tk, os⟩ := add_int (h _ _)
theorem addSF {x y : Str} {t u : Tok} {Q : Value → Shared → Prop} (h : ∀ t' tk', Q (.str (x ++ y) t') ⟨hp, gs, dr, tk', os⟩) (hsz : x.length + y.length ≤ sizeLine) : wpAny (model prog w) A (binaryOp .Add (.str x t) (.str y u)) Q E ⟨hp, gs, dr, tk, os⟩ := PyProof.Rows.add_str (s := ⟨hp, gs, dr, tk, os⟩) (fun t' tk' => h t' tk') hsz
theorem itemSF {value slice : PySem.Expr} {x : Str} {t u : Tok} {i : Int} {Q : Value → Shared → Prop} (hr : fitsSsize i = true) (h1 : -(x.length : Int) ≤ i) (h2 : i < x.length)
    (h : ∀ t' tk', Q (.str (Txt.item x i) t') ⟨hp, gs, dr, tk', os⟩)
    (hs : subscripted slice false (.str x t) (.int i u) = operate [.str x t, .int i u] (getItem (.str x t) (.int i u)) := by with_unfolding_all rfl)
    (ht : ∀ r, letTemporaryGo value (.str x t) r = pure () := by intro _; with_unfolding_all rfl) :
    wpAny (model prog w) A (subscriptTail value slice (.str x t) (.int i u)) Q E ⟨hp, gs, dr, tk, os⟩ := item_str (s := ⟨hp, gs, dr, tk, os⟩) hr h1 h2 (fun _ => h _ _) hs ht
theorem itemF {value slice : PySem.Expr} {l : Addr} {vs : List Value} {n : Nat} {k : Int} {u : Tok} {v : Value} {Q : Value → Shared → Prop} (ho : hp.get? l = some (lo vs n)) (h0 : 0 ≤ k) (hhi : k < 2 ^ 63) (hx : vs[k.toNat]? = some v) (h : Q v ⟨hp, gs, dr, tk, os⟩)
    (hs : subscripted slice false (.ref l) (.int k u) = operate [.ref l, .int k u] (getItem (.ref l) (.int k u)) := by with_unfolding_all rfl) :
    wpAny (model prog w) A (subscriptTail value slice (.ref l) (.int k u)) Q E ⟨hp, gs, dr, tk, os⟩ := item_at (s := ⟨hp, gs, dr, tk, os⟩) ho h0 hhi hx h hs
end flat2
/-- one «if .. : made.append(writer(text))» -/
theorem made_one {prog : Program} {w : World} {A : Around} {mg mb : Str → Option Value} {g : Heap} {L a : Addr} {m : Str → Option Value} {qual : Str} {scope : Scope} {cd : Value} {Q : Flow → Shared → Prop}
    {hp : Heap} {gs : Array GenState} {dr : Drawn} {tk : Nat} {os : OsState} {test : PySem.Expr} {fn : Str} {fa : Addr} {y x : Str} {b : Bool} {tx : Tok} {d : Addr} {xs : List Str} {vs : List Value} {ep : Nat} {p1 p2 p3 p4 p5 p6 p7 p8 : Pos}
    (F : Fr g L hp m) (S : Site w mg mb g) (ho : hp.get? d = some (lo vs ep)) (dL : d ≠ L) (d0 : g.get? d = none) (hs : StrsAre vs xs) (hn : vs.length ≤ 100) (md : m "made" = some (.ref d)) (mt : m "text" = some (.str x tx))
    (htest : ∀ T : Bool → Shared → Prop, (∀ h1 tk', (∀ b o, hp.get? b = some o → h1.get? b = some o) → T b ⟨h1, gs, dr, tk', os⟩) → wpAny (model prog w) A (isTrue test (envOf qual scope L a cd) (eval test (envOf qual scope L a cd))) T (fun _ _ => False) ⟨hp, gs, dr, tk, os⟩)
    (hfn : nsIn (KK w) mainGlobals fn = some (some (.ref fa))) (hkp : keepIn (KK w) (.ref fa) = true)
    (hesc : ∀ (s' : Shared) (R : Result → Shared → Prop), Site w mg mb s'.heap → (∀ h' tk t, Kept [] s'.heap h' → R (.ok (.ret (.str y t))) { s' with heap := h', toks := tk }) → codeAny (model prog w) A (.call (.ref fa) ⟨[.str x tx], []⟩) R s')
    (h : ∀ h' tk' vs' ep', Fr g L h' m → h'.get? d = some (lo vs' ep') → vs'.length ≤ vs.length + 1 → StrsAre vs' (xs ++ oneIf b y) → Q .next ⟨h', gs, dr, tk', os⟩)
    {pl : Sem Bool} (hk : scope.kind = .function := by rfl) (k1 : (envOf qual scope L a cd).kindOf "made" = some .local := by rfl) (k2 : (envOf qual scope L a cd).kindOf "text" = some .local := by rfl) (k3 : (envOf qual scope L a cd).kindOf fn = some .globalImplicit := by rfl) (k4 : (fn == ("__debug__" : Str)) = false := by decide)
    (hi : interactive (envOf qual scope L a cd) = false := by rfl)
    (he : eval (.Call (.Attribute (.Name "made" p1) "append" p2) [.Call (.Name fn p3) [.Name "text" p4] [] p5] [] p6) (envOf qual scope L a cd) = (do
      let ov ← eval (.Name "made" p1) (envOf qual scope L a cd)
      standAt p2.atName
      let (f, first) ← holding [ov] (getMethod ov "append" pl)
      callWith p6 f first (backTo p6 (starEach [.Call (.Name fn p3) [.Name "text" p4] [] p5] (envOf qual scope L a cd))) []) := by rfl)
    (hsw : swapsWith (.Call (.Attribute (.Name "made" p1) "append" p2) [.Call (.Name fn p3) [.Name "text" p4] [] p5] [] p6) none p7.line (envOf qual scope L a cd) = pure false := by rfl) :
    wpAny (model prog w) A (exec (.If test [.Expr (.Call (.Attribute (.Name "made" p1) "append" p2) [.Call (.Name fn p3) [.Name "text" p4] [] p5] [] p6) p7] [] p8) (envOf qual scope L a cd)) Q (fun _ _ => False) ⟨hp, gs, dr, tk, os⟩ := by
  refine wpAny_If (htest _ fun h1 tk1 K1 => ?_)
  replace F := F.kept K1
  replace ho := K1 _ _ ho
  clear htest K1
  cases b with
  | false => exact itF rfl (wpAny_execs_nil (h h1 tk1 vs ep F ho (Nat.le_succ _) (by rw [show oneIf false y = [] from rfl, List.append_nil]; exact hs)))
  | true =>
    refine itT rfl (wpAny_execs_cons (wpAny_Expr (MethodCall_ (ld (s := ⟨h1, gs, dr, tk1, os⟩) F md (getMethod_list_append ho rfl rfl (callWith_method1 (spliced_more (Call_ (glob (s := ⟨h1, gs, dr, tk1, os⟩) F S hfn (callWith_K S.X hkp (spliced_more (ld (s := ⟨h1, gs, dr, tk1, os⟩) F mt (spliced_none ⟨S.X.keeps F.keep, wpAny_call ?_⟩) hk k2))) hk k3 k4))))) hk k1) he) hi hsw))
    refine hesc ⟨h1, gs, dr, tk1, os⟩ _ (S.keeps F.keep) fun ha ka ta hka => spliced_none ?_
    have ka' : ∀ b o, h1.get? b = some o → ha.get? b = some o := fun b o e => hka b o (by simp) e
    refine append_at (s := ⟨ha, gs, dr, ka, os⟩) (ka' _ _ ho) (fun hc hsc hoc => ?_) (by rw [List.size_toArray, sizeLine_eq]; lia)
    rw [List.push_toArray] at hoc
    exact wpAny_execs_nil (h hc _ _ _ ((F.kept ka').change hsc dL d0) hoc (by simp) (strsAre_snoc hs _ _))
section
variable {prog : Program} {w : World} {A : Around} {g : Heap} {L a : Addr} {m : Str → Option Value} {qual : Str} {scope : Scope} {cd : Value} {hp : Heap} {gs : Array GenState} {dr : Drawn} {tk : Nat} {os : OsState} {ls : Str} {tl : Tok}
theorem test_eq {k : Nat} {z : Str} {p1 p2 p3 p4 p5 : Pos} {T : Bool → Shared → Prop} (F : Fr g L hp m) (ml : m "listing" = some (.str ls tl)) (hk4 : k < 4) (hls : 4 ≤ ls.length) (h : ∀ tk', T (Txt.item ls k == z) ⟨hp, gs, dr, tk', os⟩)
    (hk : scope.kind = .function := by rfl) (k1 : (envOf qual scope L a cd).kindOf "listing" = some .local := by rfl) :
    wpAny (model prog w) A (isTrue (.Compare (.Subscript (.Name "listing" p1) (.Constant (.int (k : Int)) 0 p2) p3) [.Eq] [.Constant (.str z) 0 p4] p5) (envOf qual scope L a cd) (eval (.Compare (.Subscript (.Name "listing" p1) (.Constant (.int (k : Int)) 0 p2) p3) [.Eq] [.Constant (.str z) 0 p4] p5) (envOf qual scope L a cd))) T (fun _ _ => False) ⟨hp, gs, dr, tk, os⟩ :=
  wpAny_isTrue_Compare1 (Subscript_ (ld (s := ⟨hp, gs, dr, tk, os⟩) F ml (wpAny_Constant_int (item_str (fitsSsize_of (N := 9223372036854775808) (by lia) (by lia) (Int.le_refl _)) (by lia) (by lia) fun _ => wpAny_Constant_str (eq_str (wpAny_truthy_bool (h _))))) hk k1))
theorem test_in {z1 z2 : Str} {p1 p2 p3 p4 p5 p6 p7 : Pos} {T : Bool → Shared → Prop} (F : Fr g L hp m) (ml : m "listing" = some (.str ls tl)) (hls : 4 ≤ ls.length) (h : ∀ h1 tk', (∀ b o, hp.get? b = some o → h1.get? b = some o) → T ([z1, z2].any (· == Txt.item ls 3)) ⟨h1, gs, dr, tk', os⟩)
    (hk : scope.kind = .function := by rfl) (k1 : (envOf qual scope L a cd).kindOf "listing" = some .local := by rfl) :
    wpAny (model prog w) A (isTrue (.Compare (.Subscript (.Name "listing" p1) (.Constant (.int 3) 0 p2) p3) [.In] [.List [.Constant (.str z1) 0 p4, .Constant (.str z2) 0 p5] p6] p7) (envOf qual scope L a cd) (eval (.Compare (.Subscript (.Name "listing" p1) (.Constant (.int 3) 0 p2) p3) [.In] [.List [.Constant (.str z1) 0 p4, .Constant (.str z2) 0 p5] p6] p7) (envOf qual scope L a cd))) T (fun _ _ => False) ⟨hp, gs, dr, tk, os⟩ :=
  wpAny_isTrue_Compare1 (Subscript_ (ld (s := ⟨hp, gs, dr, tk, os⟩) F ml (wpAny_Constant_int (item_str (by decide) (by lia) (by lia) fun _ => List_ (spliced_more (wpAny_Constant_str (spliced_more (wpAny_Constant_str (spliced_none (newL (s := ⟨hp, gs, dr, _, os⟩) F (by simp) fun h1 l _ K1 o1 _ _ _ => in_list_strs (s := ⟨h1, gs, dr, _, os⟩) (isList_of o1) (.cons _ _ (.cons _ _ .nil)) (wpAny_truthy_bool (h h1 _ K1))))))))) ) hk k1))
end
theorem made_spec {prog : Program} {w : World} {A : Around} {s : Shared} {mg mb : Str → Option Value} {R : Result → Shared → Prop} {ls x : Str} {tl tx : Tok}
    (S : Site w mg mb s.heap) (hroom : A.depth + 1 < recursionLimit) (_hu : A.units + 10 < cLine) (hls : 4 ≤ ls.length) (hx : x.length ≤ 170000)
    (h : ∀ h' tk d vs ep, Kept [] s.heap h' → h'.get? d = some (lo vs ep) → s.heap.get? d = none → StrsAre vs (madeL ls x) → R (.ok (.ret (.ref d))) { s with heap := h', toks := tk }) :
    codeAny (model prog w) A (.call (.ref 131) ⟨[.str ls tl, .str x tx], []⟩) R s := by
  refine enterX S (by rfl) (by rfl) (by lia) (BindsTo.of_eq rfl) (locs rfl) fun h₁ A' m0 tk0 T hdA _ _ hm0 F hT _ => ?_
  have mt : m0 "text" = some (.str x tx) := hm0 _
  have ml : m0 "listing" = some (.str ls tl) := hm0 _
  clear hm0
  have hd' : A'.depth < recursionLimit := by lia
  obtain ⟨g, gs, dr, tkk, os⟩ := s
  dsimp only at *
  generalize hLs : g.objs.size = L at *
  refine wpAny_execs_cons (wpAny_Assign_Name (List_ (spliced_none (newF F (by simp) fun h2 d F2 _ o2 _ dL d0 => stF F2 fun h3 k3 F3 K3 => ?_))))
  refine wpAny_execs_cons (made_one (xs := []) (y := escS 0 x) F3 S (K3 _ _ dL o2) dL d0 .nil (by simp) rfl mt (fun T h => test_eq (k := 1) F3 ml (by decide) hls fun tk' => h _ tk' fun _ _ e => e) (by rfl) (by rfl) (fun s' R S' h' => esc_cdata S' hd' hx h') fun h4 k4 vs4 e4 F4 o4 n4 s4 => ?_)
  refine wpAny_execs_cons (made_one (y := escS 1 x) F4 S o4 dL d0 s4 (by simp at n4; lia) rfl mt (fun T h => test_eq (k := 2) F4 ml (by decide) hls fun tk' => h _ tk' fun _ _ e => e) (by rfl) (by rfl) (fun s' R S' h' => esc_attrib S' hd' hx h') fun h5 k5 vs5 e5 F5 o5 n5 s5 => ?_)
  refine wpAny_execs_cons (made_one (y := escS 2 x) F5 S o5 dL d0 s5 (by simp at n4; lia) rfl mt (fun T h => test_in F5 ml hls h) (by rfl) (by rfl) (fun s' R S' h' => esc_html S' hd' hx h') fun h6 k6 vs6 e6 F6 o6 n6 s6 => ?_)
  refine wpAny_execs_cons (made_one (y := escS 3 x) F6 S o6 dL d0 s6 (by simp at n4; lia) rfl mt (fun T h => test_in F6 ml hls h) (by rfl) (by rfl) (fun s' R S' h' => esc_c14n S' hd' hx h') fun h7 k7 vs7 e7 F7 o7 n7 s7 => ?_)
  exact wpAny_execs_cons (wpAny_Return_some (ldF F7 rfl (hT _ _ (h h7 _ d _ _ (fun b o _ e => F7.keep b o e) o7 d0 s7))))


inductive TurnN (g : Heap) (L : Addr) (gs : Array GenState) (dr : Drawn) (os : OsState) (fp : List Addr) (J : (Str → Option Value) → Heap → Prop) (h : Heap) (s' : Shared) : Prop
  | mk (h' : Heap) (tk : Nat) (m' : Str → Option Value) (e : s' = ⟨h', gs, dr, tk, os⟩) (F : Fr g L h' m') (j : J m' h') (k : ∀ b ∈ fp, ∀ o, h.get? b = some o → h'.get? b = some o)
/-- one turn's end -/
noncomputable def TurnQ (g : Heap) (L : Addr) (s : Shared) (fp : List Addr) (J : (Str → Option Value) → Heap → Prop) (Q : Flow → Shared → Prop) (h : Heap) (f : Flow) (s' : Shared) : Prop :=
  match f with
  | .next | .cont => TurnN g L s.gens s.drawn s.os fp J h s'
  | .brk => Q .next s'
  | .ret v => Q (.ret v) s'

theorem codeAny_hide {M : Model} {A : Around} {c : Code} {R : Result → Shared → Prop} {s : Shared} (h : ∀ R' : Result → Shared → Prop, (∀ r s', R r s' → R' r s') → codeAny M A c R' s) : codeAny M A c R s := h R fun _ _ x => x
inductive ForI (g : Heap) (L : Addr) (gs : Array GenState) (dr : Drawn) (os : OsState) (n : Nat) (St : Nat → Heap → Prop) (J : Nat → (Str → Option Value) → Heap → Prop) (k : Nat) (s' : Shared) : Prop
  | mk (i : Nat) (h : Heap) (tk : Nat) (m : Str → Option Value) (ek : k = n - i) (hi : i ≤ n) (e : s' = ⟨h, gs, dr, tk, os⟩) (st : St i h) (F : Fr g L h m) (j : J i m h)
theorem for_walksE {prog : Program} {w : World} {A : Around} {s : Shared} {g : Heap} {L : Addr} {m : Str → Option Value} {env : Env} {E : Value → Shared → Prop} {Q : Flow → Shared → Prop}
    {I : Addr} {fp wr : List Addr} {n : Nat} {P : Nat → Value → Prop} {St : Nat → Heap → Prop} {x : Str} {px : Pos} {body : List Stmt}
    (J : Nat → (Str → Option Value) → Heap → Prop) (W : Walks prog w A I fp wr n P St) (hLf : L ∉ fp) (hst : St 0 s.heap) (F : Fr g L s.heap m) (hwr : ∀ b ∈ wr, g.get? b = none) (hJ : J 0 m s.heap)
    (hstab : ∀ i m h h', J i m h → (∀ b o, b ∉ wr → b ≠ L → h.get? b = some o → h'.get? b = some o) → J i m h')
    (turn : ∀ i v m₁ h tk, i < n → P i v → J i m₁ h → St (i + 1) h → Fr g L h (fun y => if y = x then some v else m₁ y) →
      wpAny (model prog w) A (execs body env) (TurnQ g L s fp (J (i + 1)) Q h) (fun _ _ => False) { s with heap := h, toks := tk })
    (done : ∀ h tk m, J n m h → Fr g L h m → Q .next { s with heap := h, toks := tk })
    (hL : env.locals = L := by rfl) (hk : env.scope.kind = .function := by rfl) (hl : env.kindOf x = some .local := by rfl) :
    codeAny (model prog w) A (.forLoop (.Name x px) (.ref I) body [] env) (fun r s' => match r with | .ok f => Q f s' | .error e => E e s') s := by
  refine codeAny_hide fun R hR => ?_
  refine codeAny_forLoop (ForI g L s.gens s.drawn s.os n St J) ?_ n ⟨0, s.heap, s.toks, m, rfl, Nat.zero_le _, rfl, hst, F, hJ⟩
  rintro k s' ⟨i, h, tk, m₁, rfl, hi, rfl, hst, F, hJ⟩
  have hLw : L ∉ wr := fun q => hLf (W.sub L q)
  have move : ∀ {h' : Heap}, (∀ b o, b ∉ wr → h.get? b = some o → h'.get? b = some o) → Fr g L h' m₁ ∧ J i m₁ h' := fun {h'} hk => by
    obtain ⟨oL, a1, a2, hoL, a3⟩ := F.ns
    refine ⟨⟨⟨oL, a1, a2, hk L oL hLw hoL, a3⟩, fun b o e => hk b o (fun q => ?_) (F.keep b o e), F.above⟩, hstab i m₁ h h' hJ fun b o hb _ e => hk b o hb e⟩
    rw [hwr b q] at e; cases e
  by_cases hlt : i < n
  · refine W.item i _ _ _ hlt hst fun v h' tk' hP hst' hk' => ?_
    obtain ⟨F', hJ'⟩ := move hk'
    refine wpAny_assign_Name (wpAny_storeName_local (s := { s with heap := h', toks := tk' }) hl (hL ▸ F'.ns) (fun h₂ hns hsb => ?_) (by rw [hk]; rfl))
    rw [hL] at hns hsb
    have F₂ := F'.set hns hsb
    have hJ₂ : J i m₁ h₂ := hstab i m₁ h' h₂ hJ' fun b o _ hb e => (hsb.2 b hb).trans e
    have hst₂ : St (i + 1) h₂ := W.frame _ _ _ hst' fun b hb o e => (hsb.2 b fun (q : b = L) => hLf (q ▸ hb)).trans e
    have go : ∀ s₃, TurnN g L s.gens s.drawn s.os fp (J (i + 1)) h₂ s₃ → ∃ k', k' < n - i ∧ ForI g L s.gens s.drawn s.os n St J k' s₃ := fun s₃ h₃ => by
      obtain ⟨h₃', tk₃, m', rfl, F₃, hJ₃, hk₃⟩ := h₃
      exact ⟨n - (i + 1), by lia, i + 1, h₃', tk₃, m', rfl, hlt, rfl, W.frame _ _ _ hst₂ hk₃, F₃, hJ₃⟩
    refine wpAny_mono (turn i v m₁ h₂ _ hlt hP hJ₂ hst₂ F₂) (fun f s₃ h₃ => ?_) fun _ _ x => x.elim
    cases f with
    | next => exact go s₃ h₃
    | cont => exact go s₃ h₃
    | brk => exact hR (.ok .next) _ h₃
    | ret v => exact hR (.ok (.ret v)) _ h₃
  · obtain rfl : i = n := by lia
    refine W.done _ _ _ hst fun h' tk' hk' => wpAny_execs_nil ?_
    obtain ⟨F', hJ'⟩ := move hk'
    exact hR (.ok .next) _ (done h' tk' m₁ hJ' F')
theorem for_rangeE {prog : Program} {w : World} {A : Around} {s : Shared} {g : Heap} {L r : Addr} {m : Str → Option Value} {env : Env} {E E' : Value → Shared → Prop} {Q : Flow → Shared → Prop}
    {n : Nat} {t u v : Tok} {x : Str} {px : Pos} {body : List Stmt}
    (J : Nat → (Str → Option Value) → Heap → Prop) (hh : A.handled = none) (hr : IsRange s.heap r 0 n 1 t u v) (hsm : Builtin.Range.small 0 n 1 = true) (hsz : Builtin.Range.rangeSize 0 n 1 = n) (F : Fr g L s.heap m) (hJ : J 0 m s.heap)
    (hstab : ∀ i m h h', J i m h → (∀ b o, b ≠ s.heap.objs.size → b ≠ L → h.get? b = some o → h'.get? b = some o) → J i m h')
    (turn : ∀ i t' m₁ h tk, i < n → J i m₁ h → (∃ oI, h.get? s.heap.objs.size = some oI ∧ oI.cls = .type "range_iterator") → Fr g L h (fun y => if y = x then some (.int i t') else m₁ y) →
      wpAny (model prog w) A (execs body env) (TurnQ g L s [s.heap.objs.size] (J (i + 1)) Q h) (fun _ _ => False) { s with heap := h, toks := tk })
    (done : ∀ h tk m, J n m h → Fr g L h m → Q .next { s with heap := h, toks := tk })
    (hL : env.locals = L := by rfl) (hk : env.scope.kind = .function := by rfl) (hx : env.kindOf x = some .local := by rfl) :
    wpAny (model prog w) A (pyIter (.ref r)) (fun it s₂ => codeAny (model prog w) A (.forLoop (.Name x px) it body [] env) (fun r s' => match r with | .ok f => Q f s' | .error e => E' e s') s₂) E s := by
  refine wpAny_pyIter_range hr hsm ?_
  have W := Walks.range (prog := prog) (w := w) hh s.heap.objs.size 0 1 n
  refine for_walksE J W ?_ ?_ (F.push _) ?_ ?_ ?_ ?_ ?_ hL hk hx
  · intro q
    exact absurd F.ns.lt ((List.mem_singleton.mp q) ▸ Nat.lt_irrefl _)
  · show IsRangeIter _ _ _ _ _
    rw [hsz]
    simpa using Heap.get?_push_size _ rfl
  · intro b hb
    rw [List.mem_singleton.mp hb]
    exact next_is_new F
  · exact hstab 0 m s.heap _ hJ fun b o _ _ e => Heap.get?_push_of_some _ e
  · intro i m₁ h h' hj hk
    exact hstab i m₁ h h' hj fun b o hb hL e => hk b o (fun q => hb (List.mem_singleton.mp q)) hL e
  · intro i v m₁ h tk hi hP hj hst F₁
    obtain ⟨t', rfl⟩ := hP
    rw [show (0 : Int) + (i : Int) * 1 = i by lia] at F₁
    exact turn i t' m₁ h tk hi hj ⟨_, hst, rfl⟩ F₁
  · exact done
theorem for_walks {prog : Program} {w : World} {A : Around} {s : Shared} {g : Heap} {L a : Addr} {m : Str → Option Value} {qual : Str} {scope : Scope} {cd : Value} {E : Value → Shared → Prop} {Q : Flow → Shared → Prop}
    {I : Addr} {fp wr : List Addr} {n : Nat} {P : Nat → Value → Prop} {St : Nat → Heap → Prop} {x : Str} {px : Pos} {body : List Stmt}
    (J : Nat → (Str → Option Value) → Heap → Prop) (W : Walks prog w A I fp wr n P St) (hLf : L ∉ fp) (hst : St 0 s.heap) (F : Fr g L s.heap m) (hwr : ∀ b ∈ wr, g.get? b = none) (hJ : J 0 m s.heap)
    (hstab : ∀ i m h h', J i m h → (∀ b o, b ∉ wr → b ≠ L → h.get? b = some o → h'.get? b = some o) → J i m h')
    (turn : ∀ i v m₁ h tk, i < n → P i v → J i m₁ h → St (i + 1) h → Fr g L h (fun y => if y = x then some v else m₁ y) →
      wpAny (model prog w) A (execs body (envOf qual scope L a cd)) (TurnQ g L s fp (J (i + 1)) Q h) (fun _ _ => False) { s with heap := h, toks := tk })
    (done : ∀ h tk m, J n m h → Fr g L h m → Q .next { s with heap := h, toks := tk })
    (hk : scope.kind = .function := by rfl) (hl : (envOf qual scope L a cd).kindOf x = some .local := by rfl) :
    codeAny (model prog w) A (.forLoop (.Name x px) (.ref I) body [] (envOf qual scope L a cd)) (fun r s' => match r with | .ok f => Q f s' | .error e => E e s') s :=
  for_walksE J W hLf hst F hwr hJ hstab turn done rfl hk hl
/-- for over a list object that the turns leave alone -/
theorem for_list {prog : Program} {w : World} {A : Around} {s : Shared} {g : Heap} {L a l : Addr} {m : Str → Option Value} {qual : Str} {scope : Scope} {cd : Value} {E E' : Value → Shared → Prop} {Q : Flow → Shared → Prop}
    {vs : List Value} {x : Str} {px : Pos} {body : List Stmt}
    (J : Nat → (Str → Option Value) → Heap → Prop) (hh : A.handled = none) (hl : s.heap.IsList l vs.toArray) (hlL : l ≠ L) (F : Fr g L s.heap m) (hJ : J 0 m s.heap)
    (hstab : ∀ i m h h', J i m h → (∀ b o, b ≠ s.heap.objs.size → b ≠ L → h.get? b = some o → h'.get? b = some o) → J i m h')
    (turn : ∀ i v m₁ h tk, vs[i]? = some v → J i m₁ h → h.IsList l vs.toArray → (∃ oI, h.get? s.heap.objs.size = some oI) → Fr g L h (fun y => if y = x then some v else m₁ y) →
      wpAny (model prog w) A (execs body (envOf qual scope L a cd)) (TurnQ g L s [s.heap.objs.size, l] (J (i + 1)) Q h) (fun _ _ => False) { s with heap := h, toks := tk })
    (done : ∀ h tk m, J vs.length m h → Fr g L h m → Q .next { s with heap := h, toks := tk })
    (hk : scope.kind = .function := by rfl) (hx : (envOf qual scope L a cd).kindOf x = some .local := by rfl) :
    wpAny (model prog w) A (pyIter (.ref l)) (fun it s₂ => codeAny (model prog w) A (.forLoop (.Name x px) it body [] (envOf qual scope L a cd)) (fun r s' => match r with | .ok f => Q f s' | .error e => E' e s') s₂) E s := by
  obtain ⟨ol, hol, _⟩ := id hl
  have hne : l ≠ s.heap.objs.size := Nat.ne_of_lt (Heap.lt_size hol)
  refine wpAny_pyIter_list hl ?_
  have W := Walks.list (prog := prog) (w := w) hh s.heap.objs.size l hne vs.toArray
  rw [List.size_toArray] at W
  refine for_walks J W ?_ ⟨⟨_, Heap.get?_push_size _ rfl, rfl, rfl⟩, hl.at fun o e => Heap.get?_push_of_some _ e⟩ (F.push _) ?_ ?_ ?_ ?_ ?_ hk hx
  · intro q
    rcases List.mem_cons.mp q with q | q
    · exact absurd F.ns.lt (q ▸ Nat.lt_irrefl _)
    · exact hlL (List.mem_singleton.mp q).symm
  · intro b hb
    rw [List.mem_singleton.mp hb]
    exact next_is_new F
  · exact hstab 0 m s.heap _ hJ fun b o _ _ e => Heap.get?_push_of_some _ e
  · intro i m₁ h h' hj hk
    exact hstab i m₁ h h' hj fun b o hb hL e => hk b o (fun q => hb (List.mem_singleton.mp q)) hL e
  · intro i v m₁ h tk _ hP hj hst F₁
    obtain ⟨oI, hoI, _⟩ := hst.1
    exact turn i v m₁ h tk (by simpa using hP) hj hst.2 ⟨oI, hoI⟩ F₁
  · exact done


section nat
variable {α β : Type} {lt : α → α → Bool} {lt' : β → β → Bool} {d : α} {d' : β} (φ : α → β)
theorem getD_map (hd : φ d = d') (zs : List α) (i : Nat) : (zs.map φ).getD i d' = φ (zs.getD i d) := by
  rw [List.getD_eq_getElem?_getD, List.getD_eq_getElem?_getD, List.getElem?_map]
  cases zs[i]? with
  | none => simp [hd]
  | some z => rfl
theorem sd_map (hd : φ d = d') (hl : ∀ a b, lt' (φ a) (φ b) = lt a b) (new : α) : ∀ (f : Nat) (zs : List α) (pos : Nat), (sd lt d new f zs pos).map φ = sd lt' d' (φ new) f (zs.map φ) pos
  | 0, zs, pos => by simp [sd, List.map_set]
  | f + 1, zs, pos => by
    unfold sd
    rw [getD_map φ hd, hl]
    split
    · exact List.map_set
    · split
      · rw [sd_map hd hl new f, List.map_set]
      · exact List.map_set
theorem siftdownL_map (hd : φ d = d') (hl : ∀ a b, lt' (φ a) (φ b) = lt a b) (zs : List α) (pos : Nat) : (siftdownL lt d zs pos).map φ = siftdownL lt' d' (zs.map φ) pos := by
  unfold siftdownL; rw [sd_map φ hd hl, getD_map φ hd]
theorem suChild_map (hd : φ d = d') (hl : ∀ a b, lt' (φ a) (φ b) = lt a b) (zs : List α) (c : Nat) : suChild lt' d' (zs.map φ) c = suChild lt d zs c := by
  unfold suChild; rw [getD_map φ hd, getD_map φ hd, hl, List.length_map]
theorem su_map (hd : φ d = d') (hl : ∀ a b, lt' (φ a) (φ b) = lt a b) : ∀ (f : Nat) (zs : List α) (pos : Nat), su lt' d' f (zs.map φ) pos = ((su lt d f zs pos).1.map φ, (su lt d f zs pos).2)
  | 0, zs, pos => rfl
  | f + 1, zs, pos => by
    unfold su
    rw [suChild_map φ hd hl, List.length_map, getD_map φ hd]
    split
    · rw [← List.map_set, su_map hd hl f]
    · rfl
theorem siftupL_map (hd : φ d = d') (hl : ∀ a b, lt' (φ a) (φ b) = lt a b) (zs : List α) : (siftupL lt d zs).map φ = siftupL lt' d' (zs.map φ) := by
  unfold siftupL
  simp only []
  rw [siftdownL_map φ hd hl, List.length_map, su_map φ hd hl, List.map_set, getD_map φ hd]
theorem hpush_map (hd : φ d = d') (hl : ∀ a b, lt' (φ a) (φ b) = lt a b) (zs : List α) (z : α) : (hpush lt d zs z).map φ = hpush lt' d' (zs.map φ) (φ z) := by
  unfold hpush; rw [siftdownL_map φ hd hl, List.map_append, List.length_map]; rfl
theorem hpop_map (hd : φ d = d') (hl : ∀ a b, lt' (φ a) (φ b) = lt a b) (zs : List α) : hpop lt' d' (zs.map φ) = (φ (hpop lt d zs).1, (hpop lt d zs).2.map φ) := by
  have e1 : (zs.map φ).dropLast = zs.dropLast.map φ := (List.map_dropLast).symm
  have e2 : (zs.map φ).getLastD d' = φ (zs.getLastD d) := by
    rw [List.getLastD_eq_getLast?, List.getLastD_eq_getLast?, List.getLast?_map]
    cases zs.getLast? with
    | none => simp [hd]
    | some z => rfl
  unfold hpop
  rw [e1, e2]
  by_cases h : zs.dropLast = []
  · rw [if_pos h, if_pos (by rw [h]; rfl)]; rfl
  · rw [if_neg h, if_neg (fun q => h (List.map_eq_nil_iff.mp q)), getD_map φ hd, ← List.map_set, siftupL_map φ hd hl]
theorem hpush_length (zs : List α) (z : α) : (hpush lt d zs z).length = zs.length + 1 := by
  unfold hpush siftdownL; rw [sd_length]; simp
theorem siftdownL_mem {P : α → Prop} {zs : List α} {pos : Nat} (hp : pos < zs.length) (h : ∀ z ∈ zs, P z) : ∀ z ∈ siftdownL lt d zs pos, P z :=
  sd_mem (h _ (getD_mem hp)) pos zs pos (Nat.le_refl _) hp h
theorem hpush_mem {P : α → Prop} {zs : List α} {z : α} (h : ∀ z ∈ zs, P z) (hz : P z) : ∀ y ∈ hpush lt d zs z, P y := by
  refine siftdownL_mem (by simp) fun y hy => ?_
  rcases List.mem_append.mp hy with hy | hy
  · exact h y hy
  · rw [List.mem_singleton.mp hy]; exact hz
theorem hpop_mem {P : α → Prop} {zs : List α} (hne : zs ≠ []) (h : ∀ z ∈ zs, P z) : P (hpop lt d zs).1 ∧ ∀ y ∈ (hpop lt d zs).2, P y := by
  have hlast : P (zs.getLastD d) := by
    rw [List.getLastD_eq_getLast?, List.getLast?_eq_some_getLast hne]; exact h _ (List.getLast_mem hne)
  have hdrop : ∀ z ∈ zs.dropLast, P z := fun z hz => h z (List.dropLast_subset _ hz)
  unfold hpop
  by_cases h0 : zs.dropLast = []
  · rw [if_pos h0]; exact ⟨hlast, fun y hy => nomatch hy⟩
  · rw [if_neg h0]
    have hpos : 0 < zs.dropLast.length := List.length_pos_iff.mpr h0
    refine ⟨hdrop _ (getD_mem hpos), ?_⟩
    have hset : ∀ z ∈ zs.dropLast.set 0 (zs.getLastD d), P z := fun z hz => by
      rcases List.mem_or_eq_of_mem_set hz with hz | rfl
      · exact hdrop z hz
      · exact hlast
    unfold siftupL
    have hl2 := su_length (lt := lt) (d := d) (zs.dropLast.set 0 (zs.getLastD d)).length (zs.dropLast.set 0 (zs.getLastD d)) 0
    have hp2 := su_pos (lt := lt) (d := d) (zs.dropLast.set 0 (zs.getLastD d)).length (zs.dropLast.set 0 (zs.getLastD d)) 0 (by rw [List.length_set]; exact hpos)
    refine siftdownL_mem (by simp only [List.length_set] at hl2 hp2 ⊢; lia) fun z hz => ?_
    rcases List.mem_or_eq_of_mem_set hz with hz | rfl
    · exact su_mem _ _ _ hset z hz
    · exact hset _ (getD_mem (by rw [List.length_set]; exact hpos))
theorem hpop_length {zs : List α} (hne : zs ≠ []) : (hpop lt d zs).2.length + 1 = zs.length := by
  have h1 : zs.dropLast.length = zs.length - 1 := List.length_dropLast
  have h2 : 0 < zs.length := List.length_pos_iff.mpr hne
  unfold hpop
  by_cases h0 : zs.dropLast = []
  · rw [if_pos h0]
    have : zs.dropLast.length = 0 := by rw [h0]; rfl
    show 0 + 1 = zs.length
    lia
  · rw [if_neg h0]
    show (siftupL lt d _).length + 1 = _
    unfold siftupL siftdownL
    rw [sd_length, List.length_set, su_length, List.length_set]
    lia
end nat

noncomputable abbrev P2 := Int × Str
noncomputable abbrev dP : P2 := (0, Str.empty)
noncomputable def pushNew (st : List P2 × List Str) (x : Str) : List P2 × List Str := if st.2.any (· == x) then st else (hpush ltP dP st.1 ((x.length : Int), x), st.2 ++ [x])
noncomputable def runW (ls : Str) : Nat → List P2 → List Str → List Str → List Str
  | 0, _, _, came => came
  | n + 1, ps, seen, came => if ps.isEmpty then came else
    runW ls n ((madeL ls (hpop ltP dP ps).1.2).foldl pushNew ((hpop ltP dP ps).2, seen)).1 ((madeL ls (hpop ltP dP ps).1.2).foldl pushNew ((hpop ltP dP ps).2, seen)).2 (came ++ [(hpop ltP dP ps).1.2])
noncomputable def runL (ls x : Str) : List Str := runW ls 4 [((x.length : Int), x)] [x] []


inductive WhileN (g : Heap) (L : Addr) (gs : Array GenState) (dr : Drawn) (os : OsState) (J : Nat → (Str → Option Value) → Heap → Prop) (n : Nat) (s₃ : Shared) : Prop
  | mk (h' : Heap) (tk : Nat) (m₂ : Str → Option Value) (n' : Nat) (e : s₃ = ⟨h', gs, dr, tk, os⟩) (F : Fr g L h' m₂) (hn : n' < n) (j : J n' m₂ h')
/-- a while by a word over the frame and the heap -/
theorem while_h {prog : Program} {w : World} {A : Around} {s : Shared} {g : Heap} {L : Addr} {m : Str → Option Value} {env : Env} {E : Value → Shared → Prop} {Q : Flow → Shared → Prop} {test : PySem.Expr} {body : List Stmt} {pos : Pos} {n₀ : Nat}
    (J : Nat → (Str → Option Value) → Heap → Prop) (F : Fr g L s.heap m) (hJ : J n₀ m s.heap)
    (turn : ∀ n m₁ h₁ tk₁, Fr g L h₁ m₁ → J n m₁ h₁ →
      wpAny (model prog w) A (isTrue test env (eval test env)) (fun b s₂ =>
        if b = true then wpAny (model prog w) A (execs body env) (fun f s₃ => match f with
          | .next | .cont => WhileN g L s.gens s.drawn s.os J n s₃
          | .brk => Q .next s₃
          | .ret v => Q (.ret v) s₃) (fun _ _ => False) s₂ else Q .next s₂) (fun _ _ => False) { s with heap := h₁, toks := tk₁ }) :
    wpAny (model prog w) A (exec (.While test body [] pos) env) Q E s := by
  refine wpAny_While (codeAny_whileLoop (fun n s' => ∃ h₁ tk₁ m₁, s' = { s with heap := h₁, toks := tk₁ } ∧ Fr g L h₁ m₁ ∧ J n m₁ h₁) ?_ n₀ ⟨s.heap, s.toks, m, rfl, F, hJ⟩)
  rintro n s' ⟨h₁, tk₁, m₁, rfl, F₁, J₁⟩
  refine wpAny_mono (turn n m₁ h₁ tk₁ F₁ J₁) (fun b s₂ h₂ => ?_) fun _ _ x => x.elim
  cases b with
  | false =>
    simp only [Bool.false_eq_true, if_false] at h₂ ⊢
    exact wpAny_execs_nil h₂
  | true =>
    simp only [if_true] at h₂ ⊢
    refine wpAny_mono h₂ (fun f s₃ h₃ => ?_) fun _ _ x => x.elim
    cases f with
    | next =>
      obtain ⟨h', tk, m₂, n', rfl, F₂, hn, J₂⟩ := h₃
      exact ⟨n', hn, h', tk, m₂, rfl, F₂, J₂⟩
    | cont =>
      obtain ⟨h', tk, m₂, n', rfl, F₂, hn, J₂⟩ := h₃
      exact ⟨n', hn, h', tk, m₂, rfl, F₂, J₂⟩
    | brk => exact h₃
    | ret v => exact h₃

/-- a pair at an address outside X -/
inductive PairX (X : List Addr) (h : Heap) (z : Z) : Prop
  | mk (a : Addr) (o : Obj) (t u : Tok) (n : Nat) (r : z.1 = .ref a ∧ a ∉ X ∧ h.get? a = some o ∧ o.cls = .type "tuple" ∧ o.data = .seq #[.int z.2.1 t, .str z.2.2 u] n)
theorem PairX.pair {X : List Addr} {h : Heap} {z : Z} (x : PairX X h z) : IsPair h z.1 z.2 := by
  obtain ⟨a, o, t, u, n, e, _, r⟩ := x
  exact ⟨a, o, t, u, n, e, r⟩
theorem PairX.hide {X : List Addr} {h : Heap} {z : Z} {l : Addr} {vs : List Value} {e : Nat} (x : PairX X h z) (hl : h.get? l = some (lo vs e)) : IsPair (h.hide l) z.1 z.2 := by
  obtain ⟨a, o, t, u, n, e, _, ho, hc, r⟩ := x
  have hne : a ≠ l := fun q => by
    rw [q, hl] at ho
    rw [← Option.some.inj ho] at hc
    exact absurd hc (by simp)
  exact ⟨a, o, t, u, n, e, (Heap.hide_ne _ hne).trans ho, hc, r⟩
/-- what turned only lists kept the pairs -/
theorem PairX.kept {X : List Addr} {h h' : Heap} {z : Z} {l : Addr} {vs : List Value} {e : Nat} (x : PairX X h z) (hl : h.get? l = some (lo vs e)) (hk : ∀ b o, b ≠ l → h.get? b = some o → h'.get? b = some o) : PairX X h' z := by
  obtain ⟨a, o, t, u, n, e, hX, ho, hc, r⟩ := x
  have hne : a ≠ l := fun q => by
    rw [q, hl] at ho
    rw [← Option.some.inj ho] at hc
    exact absurd hc (by simp)
  exact ⟨a, o, t, u, n, e, hX, hk a o hne ho, hc, r⟩
theorem PairX.stab {X : List Addr} {h h' : Heap} {z : Z} (x : PairX X h z) (hk : ∀ b o, b ∉ X → h.get? b = some o → h'.get? b = some o) : PairX X h' z := by
  obtain ⟨a, o, t, u, n, e, hX, ho, r⟩ := x
  exact ⟨a, o, t, u, n, e, hX, hk a o hX ho, r⟩

/-- heap, seen, came as they lie -/
inductive RunSt (X : List Addr) (hl sl cl : Addr) (ps : List P2) (seen came : List Str) (h : Heap) : Prop
  | mk (zs : List Z) (sv cv : List Value) (e1 e2 e3 : Nat) (r : zs.map (·.2) = ps ∧ h.get? hl = some (lo (zs.map (·.1)) e1) ∧ (∀ z ∈ zs, PairX X h z) ∧ h.get? sl = some (lo sv e2) ∧ StrsAre sv seen ∧ h.get? cl = some (lo cv e3) ∧ StrsAre cv came)
theorem RunSt.stab {X : List Addr} {hl sl cl : Addr} {ps : List P2} {seen came : List Str} {h h' : Heap} (r : RunSt X hl sl cl ps seen came h) (h1 : hl ∉ X) (h2 : sl ∉ X) (h3 : cl ∉ X)
    (hk : ∀ b o, b ∉ X → h.get? b = some o → h'.get? b = some o) : RunSt X hl sl cl ps seen came h' := by
  obtain ⟨zs, sv, cv, e1, e2, e3, a, b, c, d, e, f, i⟩ := r
  exact ⟨zs, sv, cv, e1, e2, e3, a, hk _ _ h1 b, fun z hz => (c z hz).stab hk, hk _ _ h2 d, e, hk _ _ h3 f, i⟩

structure Apart (g : Heap) (L hl sl cl : Addr) : Prop where
  hs : hl ≠ sl
  hc : hl ≠ cl
  sc : sl ≠ cl
  hL : hl ≠ L
  sL : sl ≠ L
  cL : cl ≠ L
  h0 : g.get? hl = none
  s0 : g.get? sl = none
  c0 : g.get? cl = none

/-- the heap turned at one address off the frame and the base -/
theorem Fr.kept1 {g h h' : Heap} {L l : Addr} {m : Str → Option Value} (F : Fr g L h m) (hL : l ≠ L) (h0 : g.get? l = none) (hk : Kept [l] h h') : Fr g L h' m := by
  obtain ⟨oL, a1, a2, ho, a3⟩ := F.ns
  refine ⟨⟨oL, a1, a2, hk L oL (fun q => hL (List.mem_singleton.mp q).symm) ho, a3⟩, fun b x e => hk b x (fun q => ?_) (F.keep b x e), F.above⟩
  rw [List.mem_singleton.mp q, h0] at e; cases e
theorem under_hide {g h : Heap} {L l : Addr} {m : Str → Option Value} (F : Fr g L h m) (h0 : g.get? l = none) : ∀ b x, g.get? b = some x → (h.hide l).get? b = some x := fun b x e => by
  rw [Heap.hide_ne _ (fun q => by rw [q, h0] at e; cases e)]
  exact F.keep b x e
theorem ne_list {prog : Program} {w : World} {A : Around} {E : Value → Shared → Prop} {s : Shared} {l b : Addr} {vs : List Value} {n k : Nat} {Q : Value → Shared → Prop} (hu : A.units < cLine) (hl : s.heap.get? l = some (lo vs n)) (hb : s.heap.get? b = some (lo [] k))
    (h : Q (.bool (!vs.isEmpty)) s) : wpAny (model prog w) A (compareOp .NotEq (.ref l) (.ref b)) Q E s := by
  refine cmp_ofNotEq ?_
  cases vs with
  | nil => exact SeqAt.RcNeAt.lists (e := fun _ => true) (isList_of hl) (isList_of hb) rfl hu (fun j h1 _ => absurd h1 (by simp)) prog w E Q (by simpa using h)
  | cons v r => exact SeqAt.RcNeAt.lists_lengths (isList_of hl) (isList_of hb) (by simp) hu prog w E Q (by simpa using h)

theorem push_stmt {prog : Program} {w : World} {A : Around} {s : Shared} {mg mb : Str → Option Value} {g : Heap} {L a hl : Addr} {m : Str → Option Value} {qual : Str} {scope : Scope} {cd : Value} {E : Value → Shared → Prop} {Q : Flow → Shared → Prop}
    {V : Str} {x : Str} {t : Tok} {zs : List Z} {e1 : Nat} {X : List Addr} {p1 p2 p3 p4 p5 p6 p7 p8 p9 : Pos} {k : Nat}
    (F : Fr g L s.heap m) (S : Site w mg mb g) (hroom : A.depth + 1 < recursionLimit) (hu : A.units + 20 < cLine) (mh : m "heap" = some (.ref hl)) (mv : m V = some (.str x t)) (hlen : x.length ≤ 1000000)
    (h0 : g.get? hl = none) (hL : hl ≠ L) (ho : s.heap.get? hl = some (lo (zs.map (·.1)) e1)) (hz : ∀ z ∈ zs, PairX X s.heap z) (hsz : zs.length < 1000) (hX : ∀ b ∈ X, b < s.heap.objs.size)
    (h : ∀ h' tk z e', Fr g L h' m → Kept [hl] s.heap h' → z.2 = ((x.length : Int), x) → h'.get? hl = some (lo ((hpush ltZ dZ zs z).map (·.1)) e') → (∀ y ∈ hpush ltZ dZ zs z, PairX X h' y) → Q .next { s with heap := h', toks := tk })
    (hk : scope.kind = .function := by rfl) (k1 : (envOf qual scope L a cd).kindOf "heap" = some .local := by rfl) (k2 : (envOf qual scope L a cd).kindOf V = some .local := by rfl)
    (k3 : (envOf qual scope L a cd).kindOf "heappush" = some .globalImplicit := by rfl) (k4 : (envOf qual scope L a cd).kindOf "len" = some .globalImplicit := by rfl) (hd : (V == ("__debug__" : Str)) = false := by decide)
    (hi : interactive (envOf qual scope L a cd) = false := by rfl)
    (hs : swapsWith (.Call (.Name "heappush" p1) [.Name "heap" p2, .Tuple [.Call (.Name "len" p3) [.Name V p4] [] p5, .Name V p6] k p7] [] p8) none p9.line (envOf qual scope L a cd) = pure false := by rfl) :
    wpAny (model prog w) A (exec (.Expr (.Call (.Name "heappush" p1) [.Name "heap" p2, .Tuple [.Call (.Name "len" p3) [.Name V p4] [] p5, .Name V p6] k p7] [] p8) p9) (envOf qual scope L a cd)) Q E s := by
  refine wpAny_Expr (Call_ (glob F S (by rfl) (callWith_K S.X (by rfl) (spliced_more (ld F mh (spliced_more (Tuple_ (spliced_more (Call_ (globB F S (by rfl) boot_len (by decide) (callWith_builtin1 (spliced_more (ld F mv (spliced_none ?_) hk k2 hd))) hk k4)))) ) hk k1))) hk k3)) hi hs
  refine len_str (by lia) (spliced_more (ld (s := { s with toks := _ }) F mv (spliced_none ?_) hk k2 hd))
  have Fn := F.push ({ cls := .type "tuple", data := .seq [Value.int x.length (s.toks + 1), .str x t].toArray } : Obj)
  refine wpAny_newObj_type ?_ (by show 2 ≤ sizeLine; rw [sizeLine_eq]; decide)
  refine spliced_none ⟨S.X.keeps Fn.keep, wpAny_call ?_⟩
  dsimp only [List.nil_append]
  have hgrow : ∀ b o, s.heap.get? b = some o → (s.heap.push ({ cls := .type "tuple", data := .seq [Value.int x.length (s.toks + 1), .str x t].toArray } : Obj)).get? b = some o := fun b o e => Heap.get?_push_of_some _ e
  have hnew : (s.heap.push ({ cls := .type "tuple", data := .seq [Value.int x.length (s.toks + 1), .str x t].toArray } : Obj)).get? s.heap.objs.size = some ({ cls := .type "tuple", data := .seq [Value.int x.length (s.toks + 1), .str x t].toArray } : Obj) := Heap.get?_push_size _ rfl
  generalize hhn : s.heap.push ({ cls := .type "tuple", data := .seq [Value.int x.length (s.toks + 1), .str x t].toArray } : Obj) = hn at *
  have hz1 : PairX X hn (.ref s.heap.objs.size, ((x.length : Int), x)) := ⟨s.heap.objs.size, _, s.toks + 1, t, 0, rfl, fun q => absurd (hX _ q) (Nat.lt_irrefl _), hnew, rfl, rfl⟩
  have hzn : ∀ z ∈ zs, PairX X hn z := fun z hm => (hz z hm).stab fun b o _ e => hgrow b o e
  have hon := hgrow _ _ ho
  refine heappush_spec (s := { s with heap := hn, toks := _ }) (z := (.ref s.heap.objs.size, ((x.length : Int), x))) (S.keeps (under_hide Fn h0)) hroom hu hon (fun z hm => (hzn z hm).hide hon) (hz1.hide hon) hsz fun h' tk e' hk' ho' => ?_
  refine h h' tk _ e' (Fr.kept1 Fn hL h0 hk') (fun b o hb e => hk' b o hb (hgrow b o e)) rfl ho' ?_
  exact hpush_mem (fun z hm => (hzn z hm).kept hon fun b o hb e => hk' b o (fun q => hb (List.mem_singleton.mp q)) e) (hz1.kept hon fun b o hb e => hk' b o (fun q => hb (List.mem_singleton.mp q)) e)


theorem PairX.weaken {X Y : List Addr} {h : Heap} {z : Z} (x : PairX X h z) (hs : ∀ b ∈ Y, b ∈ X) : PairX Y h z := by
  obtain ⟨a, o, t, u, n, e, hX, r⟩ := x
  exact ⟨a, o, t, u, n, e, fun q => hX (hs a q), r⟩
theorem PairX.fresh {X : List Addr} {h : Heap} {z : Z} (x : PairX X h z) : PairX (h.objs.size :: X) h z := by
  obtain ⟨a, o, t, u, n, e, hX, ho, r⟩ := x
  refine ⟨a, o, t, u, n, e, fun q => ?_, ho, r⟩
  rcases List.mem_cons.mp q with q | q
  · exact absurd (Heap.lt_size ho) (q ▸ Nat.lt_irrefl _)
  · exact hX q
theorem RunSt.weaken {X Y : List Addr} {hl sl cl : Addr} {ps : List P2} {seen came : List Str} {h : Heap} (r : RunSt X hl sl cl ps seen came h) (hs : ∀ b ∈ Y, b ∈ X) : RunSt Y hl sl cl ps seen came h := by
  obtain ⟨zs, sv, cv, e1, e2, e3, a, b, c, d⟩ := r
  exact ⟨zs, sv, cv, e1, e2, e3, a, b, fun z hz => (c z hz).weaken hs, d⟩
theorem RunSt.fresh {X : List Addr} {hl sl cl : Addr} {ps : List P2} {seen came : List Str} {h : Heap} (r : RunSt X hl sl cl ps seen came h) : RunSt (h.objs.size :: X) hl sl cl ps seen came h := by
  obtain ⟨zs, sv, cv, e1, e2, e3, a, b, c, d⟩ := r
  exact ⟨zs, sv, cv, e1, e2, e3, a, b, fun z hz => (c z hz).fresh, d⟩

theorem strsAre_get {vs : List Value} {xs : List Str} (h : StrsAre vs xs) : ∀ {i : Nat} {v : Value}, vs[i]? = some v → ∃ x t, xs[i]? = some x ∧ v = .str x t := by
  induction h with
  | nil => intro i v e; simp at e
  | cons y t _ ih =>
    intro i v e
    cases i with
    | zero => simp at e; exact ⟨y, t, rfl, e.symm⟩
    | succ i => simp at e; obtain ⟨x, t', a, b⟩ := ih e; exact ⟨x, t', by simpa using a, b⟩

theorem push_len (B : Nat) : ∀ (as : List Str) (st : List P2 × List Str), (∀ a ∈ as, a.length ≤ B) → (∀ p ∈ st.1, p.2.length ≤ B) →
    (as.foldl pushNew st).1.length ≤ st.1.length + as.length ∧ (as.foldl pushNew st).2.length ≤ st.2.length + as.length ∧ ∀ p ∈ (as.foldl pushNew st).1, p.2.length ≤ B
  | [], st, _, h => ⟨by simp, by simp, h⟩
  | a :: as, st, ha, h => by
    have h1 : ∀ p ∈ (pushNew st a).1, p.2.length ≤ B := by
      unfold pushNew
      split
      · exact h
      · exact hpush_mem h (ha a (by simp))
    have h2 : (pushNew st a).1.length ≤ st.1.length + 1 ∧ (pushNew st a).2.length ≤ st.2.length + 1 := by
      unfold pushNew
      split
      · lia
      · simp [hpush_length]
    obtain ⟨i1, i2, i3⟩ := push_len B as (pushNew st a) (fun b hb => ha b (by simp [hb])) h1
    rw [List.foldl_cons]
    refine ⟨?_, ?_, i3⟩
    · simp only [List.length_cons]; lia
    · simp only [List.length_cons]; lia
theorem oneIf_len (b : Bool) (x : Str) : (oneIf b x).length ≤ 1 := by unfold oneIf; split <;> simp
theorem madeL_len (ls x : Str) : (madeL ls x).length ≤ 4 := by
  unfold madeL
  simp only [List.length_append]
  have h1 := oneIf_len (Txt.item ls 1 == Str.ofString "r") (escS 0 x)
  have h2 := oneIf_len (Txt.item ls 2 == Str.ofString "w") (escS 1 x)
  have h3 := oneIf_len ([Str.ofString "x", Str.ofString "s"].any (· == Txt.item ls 3)) (escS 2 x)
  have h4 := oneIf_len ([Str.ofString "s", Str.ofString "S"].any (· == Txt.item ls 3)) (escS 3 x)
  lia
theorem madeL_mem (ls x : Str) : ∀ a ∈ madeL ls x, a.length ≤ 6 * x.length := by
  intro a ha
  unfold madeL at ha
  simp only [List.mem_append, oneIf] at ha
  rcases ha with ((ha | ha) | ha) | ha <;> (split at ha <;> simp at ha <;> (subst ha; exact escS_length _ _))

theorem foldl_take_succ (as : List Str) (st : List P2 × List Str) (i : Nat) (a : Str) (h : as[i]? = some a) : (as.take (i + 1)).foldl pushNew st = pushNew ((as.take i).foldl pushNew st) a := by
  have : as.take (i + 1) = as.take i ++ [a] := by
    rw [List.take_add_one, h]; rfl
  rw [this, List.foldl_append]; rfl

noncomputable def RunM (hl sl cl : Addr) (ls : Str) (tl : Tok) (m : Str → Option Value) : Prop :=
  m "heap" = some (.ref hl) ∧ m "seen" = some (.ref sl) ∧ m "came" = some (.ref cl) ∧ m "listing" = some (.str ls tl)
inductive RunJ (L hl sl cl : Addr) (ls : Str) (tl : Tok) (target : List Str) (n : Nat) (m : Str → Option Value) (h : Heap) : Prop
  | mk (hm : RunM hl sl cl ls tl m) (ps : List P2) (seen came : List Str) (r : RunSt [L] hl sl cl ps seen came h ∧ came.length + n = 4 ∧ ps.length ≤ 1 + 4 * came.length ∧ seen.length ≤ 1 + 4 * came.length ∧ (∀ p ∈ ps, p.2.length ≤ 30 * 6 ^ came.length) ∧ runW ls n ps seen came = target)
noncomputable def RunF (X : List Addr) (hl sl cl : Addr) (ls : Str) (tl : Tok) (as : List Str) (st : List P2 × List Str) (came : List Str) (i : Nat) (m : Str → Option Value) (h : Heap) : Prop :=
  RunM hl sl cl ls tl m ∧ RunSt X hl sl cl ((as.take i).foldl pushNew st).1 ((as.take i).foldl pushNew st).2 came h

theorem map_none {zs : List Z} : (zs.map (·.2)) = ([] : List P2) → zs = [] := fun h => List.map_eq_nil_iff.mp h



theorem runW_succ {ls : Str} {n : Nat} {ps : List P2} {seen came : List Str} (h : ps ≠ []) : runW ls (n + 1) ps seen came =
    runW ls n ((madeL ls (hpop ltP dP ps).1.2).foldl pushNew ((hpop ltP dP ps).2, seen)).1 ((madeL ls (hpop ltP dP ps).1.2).foldl pushNew ((hpop ltP dP ps).2, seen)).2 (came ++ [(hpop ltP dP ps).1.2]) := by
  have : ps.isEmpty = false := by cases ps with
    | nil => exact absurd rfl h
    | cons a r => rfl
  show (if ps.isEmpty = true then came else _) = _
  rw [this]; rfl

theorem run_spec {prog : Program} {w : World} {A : Around} {s : Shared} {mg mb : Str → Option Value} {R : Result → Shared → Prop} {ls x : Str} {tl tx : Tok}
    (S : Site w mg mb s.heap) (hroom : A.depth + 4 < recursionLimit) (hu : A.units + 60 < cLine) (hh : A.handled = none) (hls : 4 ≤ ls.length) (hx : x.length ≤ 30)
    (h : ∀ h' tk d vs ep, Kept [] s.heap h' → h'.get? d = some (lo vs ep) → s.heap.get? d = none → StrsAre vs (runL ls x) → R (.ok (.ret (.ref d))) { s with heap := h', toks := tk }) :
    codeAny (model prog w) A (.call (.ref 138) ⟨[.str x tx, .str ls tl], []⟩) R s := by
  refine enterX S (by rfl) (by rfl) (less0 hroom) (BindsTo.of_eq rfl) (locs rfl) fun h₁ A' m0 tk0 T hdA huA hhA hm0 F hT _ => ?_
  replace hhA := hhA.trans hh
  have hdp : A'.depth + 3 < recursionLimit := by rw [hdA]; exact hroom
  have hun : A'.units + 57 < cLine := by rw [huA]; exact hu
  have mt : m0 "text" = some (.str x tx) := hm0 _
  have ml0 : m0 "listing" = some (.str ls tl) := hm0 _
  clear hm0
  generalize hg : s.heap = g at *
  generalize hLs : g.objs.size = L at *
  -- heap = []
  refine wpAny_execs_cons (wpAny_Assign_Name (List_ (spliced_none (newL (s := { s with heap := h₁, toks := _ }) F (by simp) fun h2 hl F2 _ ho2 _ hlL hl0 => stK (s := { s with heap := h2, toks := _ }) F2 fun h3 k3 F3 K3 => ?_))))
  have hlo := K3 _ _ hlL ho2
  -- heappush(heap, (len(text), text))
  refine wpAny_execs_cons (push_stmt (zs := []) (X := [L]) (s := { s with heap := h3, toks := _ }) F3 S (lessN hdp) (lessN hun) rfl mt (Nat.le_trans hx (by decide)) hl0 hlL hlo (fun _ hm => nomatch hm) (by decide) (fun b hb => by rw [List.mem_singleton.mp hb]; exact F3.ns.lt) fun h4 k4 z1 e4 F4 hk4 hz1 ho4 hp4 => ?_)
  -- seen = [text]
  refine wpAny_execs_cons (wpAny_Assign_Name (List_ (spliced_more (ld (s := { s with heap := h4, toks := _ }) F4 mt (spliced_none (newL (s := { s with heap := h4, toks := _ }) F4 (by simp) fun h5 sl F5 K5 ho5 hn5 hsL hs0 => stK (s := { s with heap := h5, toks := _ }) F5 fun h6 k6 F6 K6 => ?_))))))
  have hsh : hl ≠ sl := hn5 _ _ ho4
  -- came = []
  refine wpAny_execs_cons (wpAny_Assign_Name (List_ (spliced_none (newL (s := { s with heap := h6, toks := _ }) F6 (by simp) fun h7 cl F7 K7 ho7 hn7 hcL hc0 => stK (s := { s with heap := h7, toks := _ }) F7 fun h8 k8 F8 K8 => ?_))))
  have ho6s := K6 _ _ hsL ho5
  have ho6h := K6 _ _ hlL (K5 _ _ ho4)
  have ap : Apart g L hl sl cl := ⟨hsh, hn7 _ _ ho6h, hn7 _ _ ho6s, hlL, hsL, hcL, hl0, hs0, hc0⟩
  have K48 : ∀ b o, b ∉ [L] → h4.get? b = some o → h8.get? b = some o := fun b o hb e => by
    have hb' : b ≠ L := fun q => hb (by simp [q])
    exact K8 b o hb' (K7 b o (K6 b o hb' (K5 b o e)))
  have st8 : RunSt [L] hl sl cl [((x.length : Int), x)] [x] [] h8 := by
    refine ⟨hpush ltZ dZ [] z1, _, _, _, _, _, ?_, K48 _ _ (by simp [hlL]) ho4, fun z hm => (hp4 z hm).stab K48, K8 _ _ hsL (K7 _ _ ho6s), .cons _ _ .nil, K8 _ _ hcL ho7, .nil⟩
    rw [hpush_map (lt' := ltP) (d' := dP) (fun z : Z => z.2) rfl (fun _ _ => rfl), hz1]; rfl
  refine wpAny_execs_cons (wpAny_mono (Q := fun fl s' => fl = .next ∧ ∃ h' tk m' cv e, s' = { s with heap := h', toks := tk } ∧ Fr g L h' m' ∧ m' "came" = some (.ref cl) ∧ h'.get? cl = some (lo cv e) ∧ StrsAre cv (runL ls x)) (E := fun _ _ => False) ?_ ?_ fun _ _ x => x)
  · refine while_h (s := { s with heap := h8, toks := _ }) (n₀ := 4) (RunJ L hl sl cl ls tl (runL ls x)) F8 ⟨⟨rfl, rfl, rfl, ml0⟩, _, _, _, st8, rfl, by simp, by simp, by simpa using hx, rfl⟩ ?_
    intro n m1 h9 k9 F9 hJ9
    refine wpAny_hide fun T1 hT1 => ?_
    obtain ⟨⟨mh, ms, mc, ml⟩, ps, seen, came, ⟨zs, sv, cv, e1, e2, e3, hzp, hoh, hz, hos, hsv, hoc, hcv⟩, hcame, hps, hseen, hB, htar⟩ := hJ9
    have hU : A'.units < cLine := less0 hun
    have hcvl := strsAre_len hcv
    refine isTrue_and (wpAny_isTrue_Compare1 (ld F9 mh (List_ (spliced_none (newL (s := { s with heap := h9, toks := _ }) F9 (by simp) fun ha nl Fa Ka hoa _ _ _ => ne_list (s := { s with heap := ha, toks := _ }) hU (Ka _ _ hoh) hoa (wpAny_truthy_bool ?_))))))
    by_cases hz0 : zs = []
    · subst hz0
      subst hzp
      refine itF (rfl) ?_
      have ht : came = runL ls x := by rw [← htar]; cases n <;> rfl
      refine hT1 false _ ?_
      refine itF rfl ?_
      exact ⟨rfl, ha, _, m1, cv, e3, rfl, Fa, mc, Ka _ _ hoc, ht ▸ hcv⟩
    have hb0 : (!(zs.map (·.1)).isEmpty) = true := by
      cases zs with
      | nil => exact absurd rfl hz0
      | cons a r => rfl
    refine itT hb0 ?_
    refine isTrue_and (wpAny_isTrue_Compare1 (Call_ (globB (s := { s with heap := ha, toks := _ }) Fa S (by rfl) boot_len (by decide) (callWith_builtin1 (spliced_more (ld (s := { s with heap := ha, toks := _ }) Fa mc (spliced_none ?_)))))))
    refine len_at (s := { s with heap := ha, toks := _ }) (Ka _ _ hoc) (by lia) (wpAny_Constant_int (lt_int (wpAny_truthy_bool ?_)))
    cases n with
    | zero =>
      refine itF (decide_eq_false (by lia)) ?_
      refine hT1 false _ ?_
      refine itF rfl ?_
      exact ⟨rfl, ha, _, m1, cv, e3, rfl, Fa, mc, Ka _ _ hoc, htar ▸ hcv⟩
    | succ n =>
    refine itT (decide_eq_true (by lia)) ?_
    refine isTrue_and_nil (hT1 true _ ?_)
    refine itT rfl ?_
    refine wpAny_hide fun T2 hT2 => ?_
    have hpsne : ps ≠ [] := fun q => hz0 (map_none (hzp.trans q))
    have hzs : zs.length = ps.length := by rw [← hzp, List.length_map]
    have hpe := hpop_map (lt := ltZ) (lt' := ltP) (d := dZ) (d' := dP) (fun z : Z => z.2) rfl (fun _ _ => rfl) zs
    rw [hzp] at hpe
    have hpl := hpop_length (lt := ltP) (d := dP) hpsne
    obtain ⟨hB1, hB2⟩ := hpop_mem (lt := ltP) (d := dP) (P := fun p : P2 => p.2.length ≤ 30 * 6 ^ came.length) hpsne hB
    have hc3 : came.length ≤ 3 := by lia
    have hz13 : zs.length ≤ 13 := by rw [hzs]; exact Nat.le_trans hps (Nat.add_le_add_left (Nat.mul_le_mul_left 4 hc3) 1)
    have hza : ∀ z ∈ zs, PairX [L] ha z := fun z hm => (hz z hm).stab fun b o _ e => Ka b o e
    -- first = heappop(heap)[1]
    refine wpAny_execs_cons (wpAny_Assign_Name (Subscript_ (Call_ (glob (s := { s with heap := ha, toks := _ }) Fa S (by rfl) (callWith_K S.X (by rfl) (spliced_more (ld (s := { s with heap := ha, toks := _ }) Fa mh (spliced_none ⟨S.X.keeps Fa.keep, wpAny_call ?_⟩))))))))
    refine heappop_spec (s := { s with heap := ha, toks := _ }) (S.keeps (under_hide Fa ap.h0)) (lessN hdp) (lessN hun) (Ka _ _ hoh) (fun z hm => (hza z hm).hide (Ka _ _ hoh)) hz0 (Nat.lt_of_le_of_lt hz13 (by decide)) fun hb kb eb hkb hob => ?_
    have Kb : ∀ b o, b ≠ hl → ha.get? b = some o → hb.get? b = some o := fun b o hn e => hkb b o (fun q => hn (List.mem_singleton.mp q)) e
    have Fb := Fr.kept1 Fa ap.hL ap.h0 hkb
    obtain ⟨hz1, hz2⟩ := hpop_mem (lt := ltZ) (d := dZ) (P := fun z => PairX [L] hb z) hz0 fun z hm => (hza z hm).kept (Ka _ _ hoh) Kb
    obtain ⟨ar, orr, t1, t2, nr, er, _, hor, hcr, hdr⟩ := hz1
    rw [er]
    have hp2 : (hpop ltZ dZ zs).1.2 = (hpop ltP dP ps).1 := by rw [hpe]
    have hps2 : (hpop ltZ dZ zs).2.map (·.2) = (hpop ltP dP ps).2 := by rw [hpe]
    rw [hp2] at hdr
    rw [runW_succ hpsne] at htar
    generalize hfirst : (hpop ltP dP ps).1.2 = x1 at *
    generalize (hpop ltP dP ps).2 = ps1 at *
    generalize (hpop ltZ dZ zs).2 = zs1 at *
    refine wpAny_Constant_int (item_tupleT (s := { s with heap := hb, toks := _ }) (j := 1) ⟨orr, hor, hcr, nr, hdr⟩ (by decide) (by decide) rfl rfl (stK (s := { s with heap := hb, toks := _ }) Fb fun hc kc Fc Kc => ?_))
    have hX1 : x1.length ≤ 6480 := Nat.le_trans hB1 (Nat.mul_le_mul_left 30 (Nat.pow_le_pow_right (n := 6) (j := 3) (by decide) hc3))
    -- came.append(first)
    have hcc : hc.get? cl = some (lo cv e3) := Kc _ _ ap.cL (Kb _ _ ap.hc.symm (Ka _ _ hoc))
    refine wpAny_execs_cons (wpAny_Expr (MethodCall_ (ld (s := { s with heap := hc, toks := _ }) Fc mc (getMethod_list_append hcc rfl rfl (callWith_method1 (spliced_more (ld (s := { s with heap := hc, toks := _ }) Fc rfl (spliced_none ?_))))))))
    refine append_at (s := { s with heap := hc, toks := _ }) hcc (fun hd hsd hod => ?_) (by rw [List.size_toArray, sizeLine_eq]; lia)
    rw [List.push_toArray] at hod
    have Fd := Fc.change hsd ap.cL ap.c0
    have Kd : ∀ b o, b ≠ cl → hc.get? b = some o → hd.get? b = some o := fun b o hn e => (hsd.2 b hn).trans e
    have std : RunSt [L] hl sl cl ps1 seen (came ++ [x1]) hd := by
      refine ⟨zs1, sv, _, eb, e2, _, hps2, Kd _ _ ap.hc (Kc _ _ ap.hL hob), fun z hm => ?_, Kd _ _ ap.sc (Kc _ _ ap.sL (Kb _ _ ap.hs.symm (Ka _ _ hos))), hsv, hod, strsAre_snoc hcv _ _⟩
      exact ((hz2 z hm).stab fun b o hb e => Kc b o (fun q => hb (by simp [q])) e).kept hcc Kd
    -- for after in _law_made(listing, first)
    refine wpAny_execs_cons (wpAny_For (Call_ (glob (s := { s with heap := hd, toks := _ }) Fd S (by rfl) (callWith_K S.X (by rfl) (spliced_more (ld (s := { s with heap := hd, toks := _ }) Fd ml (spliced_more (ld (s := { s with heap := hd, toks := _ }) Fd rfl (spliced_none ⟨S.X.keeps Fd.keep, wpAny_call ?_⟩)))))))))
    refine made_spec (s := { s with heap := hd, toks := _ }) (S.keeps Fd.keep) (lessN hdp) (lessN hun) hls (Nat.le_trans hX1 (by decide)) fun he ke d vs ep hke hod2 hdn hvs => ?_
    have Ke : ∀ b o, hd.get? b = some o → he.get? b = some o := fun b o e => hke b o (by simp) e
    have Fe := Fd.kept Ke
    have ste : RunSt [L] hl sl cl ps1 seen (came ++ [x1]) he := std.stab (by simp [ap.hL]) (by simp [ap.sL]) (by simp [ap.cL]) fun b o _ e => Ke b o e
    have hdL : d ≠ L := fun q => by
      obtain ⟨oL, _, _, hoL, _⟩ := Fd.ns
      rw [q, hoL] at hdn; cases hdn
    have hdh : d ≠ hl ∧ d ≠ sl := by
      obtain ⟨_, _, _, _, _, _, _, q1, _, q2, _⟩ := std
      exact ⟨fun q => (by rw [q, q1] at hdn; cases hdn), fun q => (by rw [q, q2] at hdn; cases hdn)⟩
    have hIne : hl ≠ he.objs.size ∧ sl ≠ he.objs.size ∧ cl ≠ he.objs.size := by
      obtain ⟨_, _, _, _, _, _, _, q1, _, q2, _, q3, _⟩ := ste
      exact ⟨Nat.ne_of_lt (Heap.lt_size q1), Nat.ne_of_lt (Heap.lt_size q2), Nat.ne_of_lt (Heap.lt_size q3)⟩
    have hXh : hl ∉ [he.objs.size, L] := by simp [hIne.1, ap.hL]
    have hXs : sl ∉ [he.objs.size, L] := by simp [hIne.2.1, ap.sL]
    have hXc : cl ∉ [he.objs.size, L] := by simp [hIne.2.2, ap.cL]
    have hpow : 6 ^ (came.length + 1) = 6 * 6 ^ came.length := by rw [Nat.pow_succ, Nat.mul_comm]
    have hB3 : 30 * 6 ^ (came.length + 1) ≤ 38880 := Nat.mul_le_mul_left 30 (Nat.pow_le_pow_right (n := 6) (j := 4) (by decide) (Nat.succ_le_succ hc3))
    have hml := madeL_len ls x1
    have hma : ∀ a ∈ madeL ls x1, a.length ≤ 30 * 6 ^ (came.length + 1) := fun a ha => Nat.le_trans (madeL_mem ls x1 a ha) (Nat.le_trans (Nat.mul_le_mul_left 6 hB1) (Nat.le_of_eq (by rw [hpow, Nat.mul_left_comm])))
    have hfl := fun i => push_len (30 * 6 ^ (came.length + 1)) ((madeL ls x1).take i) (ps1, seen) (fun a ha => hma a (List.mem_of_mem_take ha)) (fun p hp => Nat.le_trans (hB2 p hp) (Nat.mul_le_mul_left 30 (Nat.pow_le_pow_right (by decide) (Nat.le_succ _))))
    have hlen1 : (came ++ [x1]).length = came.length + 1 := List.length_append
    refine for_list (s := { s with heap := he, toks := ke }) (RunF [he.objs.size, L] hl sl cl ls tl (madeL ls x1) (ps1, seen) (came ++ [x1])) hhA (isList_of hod2) hdL Fe ⟨⟨mh, ms, mc, ml⟩, ste.fresh⟩ ?_ ?_ ?_
    · rintro i m h h' ⟨hm, hr⟩ hk
      refine ⟨hm, hr.stab hXh hXs hXc fun b o hb e => ?_⟩
      simp only [List.mem_cons, List.not_mem_nil, or_false, not_or] at hb
      exact hk b o hb.1 hb.2 e
    · intro i v m2 hf kf hv hJ2 hli hI2 Ff
      refine wpAny_hide fun T3 hT3 => ?_
      obtain ⟨⟨mh2, ms2, mc2, ml2⟩, zs2, sv2, cv2, e12, e22, e32, hzp2, hoh2, hz2', hos2, hsv2, hoc2, hcv2⟩ := hJ2
      obtain ⟨oI, hoI⟩ := hI2
      obtain ⟨xa, ta, hxa, rfl⟩ := strsAre_get hvs hv
      obtain ⟨b1, b2, b3⟩ := hfl i
      have hxal : xa.length ≤ 1000000 := Nat.le_trans (hma xa (List.mem_of_getElem? hxa)) (Nat.le_trans hB3 (by decide))
      have hti : ((madeL ls x1).take i).length ≤ 4 := by rw [List.length_take]; lia
      have hfold := foldl_take_succ (madeL ls x1) (ps1, seen) i xa hxa
      generalize ((madeL ls x1).take i).foldl pushNew (ps1, seen) = sti at *
      have hz2l : zs2.length = sti.1.length := by rw [← hzp2, List.length_map]
      have hXlt : ∀ b ∈ [he.objs.size, L], b < hf.objs.size := fun b hb => by
        rcases List.mem_cons.mp hb with rfl | hb
        · exact Heap.lt_size hoI
        · rw [List.mem_singleton.mp hb]; exact Ff.ns.lt
      have hod3 : ∃ q, hf.get? d = some q := let ⟨o, ho, _⟩ := hli; ⟨o, ho⟩
      refine wpAny_execs_cons (wpAny_If (wpAny_isTrue_Compare1 (ld Ff rfl (ld Ff ms2 (notin_list_strs (isList_of hos2) hsv2 (wpAny_truthy_bool ?_))))))
      by_cases hin : sti.2.any (· == xa) = true
      · refine itF (by rw [hin, Bool.not_true]) ?_
        refine wpAny_execs_nil (wpAny_execs_nil (hT3 .next _ ⟨hf, _, _, rfl, Ff, ⟨⟨mh2, ms2, mc2, ml2⟩, ?_⟩, fun b _ o e => e⟩))
        have : pushNew sti xa = sti := by unfold pushNew; rw [if_pos hin]
        rw [hfold, this]
        exact ⟨zs2, sv2, cv2, e12, e22, e32, hzp2, hoh2, hz2', hos2, hsv2, hoc2, hcv2⟩
      · have hin' := Bool.eq_false_iff.mpr hin
        refine itT (by rw [hin', Bool.not_false]) ?_
        have hsvl := strsAre_len hsv2
        refine wpAny_execs_cons (wpAny_Expr (MethodCall_ (ld Ff ms2 (getMethod_list_append hos2 rfl rfl (callWith_method1 (spliced_more (ld Ff rfl (spliced_none ?_))))))))
        refine append_at (s := { s with heap := hf, toks := _ }) hos2 (fun hg2 hsg hog => ?_) (by rw [List.size_toArray, sizeLine_eq]; simp only at b2; lia)
        rw [List.push_toArray] at hog
        have Fg := Ff.change hsg ap.sL ap.s0
        have Kg : ∀ b o, b ≠ sl → hf.get? b = some o → hg2.get? b = some o := fun b o hn e => (hsg.2 b hn).trans e
        refine wpAny_execs_cons (push_stmt (X := [he.objs.size, L]) (s := { s with heap := hg2, toks := _ }) Fg S (lessN hdp) (lessN hun) mh2 rfl hxal ap.h0 ap.hL (Kg _ _ ap.hs hoh2) (fun z hm => (hz2' z hm).kept hos2 Kg) (by simp only at b1; lia) (fun b hb => Nat.lt_of_lt_of_eq (hXlt b hb) (by first | exact hsg.1 | exact hsg.1.symm)) fun hh2 kh2 z2 eh Fh hkh hz2e hohh hpz => ?_)
        have Kh : ∀ b o, b ≠ hl → hg2.get? b = some o → hh2.get? b = some o := fun b o hn e => hkh b o (fun q => hn (List.mem_singleton.mp q)) e
        refine wpAny_execs_nil (wpAny_execs_nil (hT3 .next _ ⟨hh2, _, _, rfl, Fh, ⟨⟨mh2, ms2, mc2, ml2⟩, ?_⟩, fun b hb o e => ?_⟩))
        · have : pushNew sti xa = (hpush ltP dP sti.1 ((xa.length : Int), xa), sti.2 ++ [xa]) := by unfold pushNew; rw [if_neg hin]
          rw [hfold, this]
          refine ⟨hpush ltZ dZ zs2 z2, _, cv2, eh, _, e32, ?_, hohh, hpz, Kh _ _ ap.hs.symm hog, strsAre_snoc hsv2 _ _, Kh _ _ ap.hc.symm (Kg _ _ ap.sc.symm hoc2), hcv2⟩
          rw [hpush_map (lt' := ltP) (d' := dP) (fun z : Z => z.2) rfl (fun _ _ => rfl), hz2e, hzp2]
        · have hne : b ≠ hl ∧ b ≠ sl := by
            rcases List.mem_cons.mp hb with rfl | hb
            · exact ⟨hIne.1.symm, hIne.2.1.symm⟩
            · rw [List.mem_singleton.mp hb]; exact hdh
          exact Kh b o hne.1 (Kg b o hne.2 e)
    · rintro hf kf m2 ⟨hm, hr⟩ Ff
      obtain ⟨b1, b2, b3⟩ := hfl (madeL ls x1).length
      rw [strsAre_len hvs] at hr
      rw [List.take_length] at hr b1 b2 b3
      simp only at b1 b2
      refine wpAny_execs_nil (hT2 .next _ ⟨hf, kf, m2, n, rfl, Ff, Nat.lt_succ_self n, hm, _, _, _, hr.weaken (by simp), ?_, ?_, ?_, by rw [hlen1]; exact b3, htar⟩)
      · rw [hlen1, Nat.add_assoc, Nat.add_comm 1 n]; exact hcame
      · rw [hlen1]; lia
      · rw [hlen1]; lia
  · rintro fl s' ⟨rfl, h9, k9, m9, cv, e9, rfl, F9, mc, hc, hcv⟩
    exact wpAny_execs_cons (wpAny_Return_some (ld F9 mc (hT _ _ (h h9 _ cl cv e9 (fun b o _ e => F9.keep b o e) hc ap.c0 hcv))))


/-- for x in range(n), any n that is small -/
theorem for_range {prog : Program} {w : World} {A : Around} {s : Shared} {g : Heap} {L a r : Addr} {m : Str → Option Value} {qual : Str} {scope : Scope} {cd : Value} {E E' : Value → Shared → Prop} {Q : Flow → Shared → Prop}
    {n : Nat} {t u v : Tok} {x : Str} {px : Pos} {body : List Stmt}
    (J : Nat → (Str → Option Value) → Heap → Prop) (hh : A.handled = none) (hr : IsRange s.heap r 0 n 1 t u v) (hsm : Builtin.Range.small 0 n 1 = true) (hsz : Builtin.Range.rangeSize 0 n 1 = n) (F : Fr g L s.heap m) (hJ : J 0 m s.heap)
    (hstab : ∀ i m h h', J i m h → (∀ b o, b ≠ s.heap.objs.size → b ≠ L → h.get? b = some o → h'.get? b = some o) → J i m h')
    (turn : ∀ i t' m₁ h tk, i < n → J i m₁ h → (∃ oI, h.get? s.heap.objs.size = some oI) → Fr g L h (fun y => if y = x then some (.int i t') else m₁ y) →
      wpAny (model prog w) A (execs body (envOf qual scope L a cd)) (TurnQ g L s [s.heap.objs.size] (J (i + 1)) Q h) (fun _ _ => False) { s with heap := h, toks := tk })
    (done : ∀ h tk m, J n m h → Fr g L h m → Q .next { s with heap := h, toks := tk })
    (hk : scope.kind = .function := by rfl) (hx : (envOf qual scope L a cd).kindOf x = some .local := by rfl) :
    wpAny (model prog w) A (pyIter (.ref r)) (fun it s₂ => codeAny (model prog w) A (.forLoop (.Name x px) it body [] (envOf qual scope L a cd)) (fun r s' => match r with | .ok f => Q f s' | .error e => E' e s') s₂) E s :=
  for_rangeE J hh hr hsm hsz F hJ hstab (fun i t' m₁ h tk hi j ⟨oI, ho, _⟩ F₁ => turn i t' m₁ h tk hi j ⟨oI, ho⟩ F₁) done rfl hk hx
noncomputable def tblS (p : Nat) : List Str := match p with
  | 0 => [Str.ofString "amp;", Str.ofString "amp;", Str.ofString "amp;", Str.ofString "amp;"]
  | 1 => [Str.ofString "lt;", Str.ofString "lt;", Str.ofString "", Str.ofString "lt;"]
  | 2 => [Str.ofString "gt;", Str.ofString "gt;", Str.ofString "gt;", Str.ofString ""]
  | 3 => [Str.ofString "", Str.ofString "quot;", Str.ofString "quot;", Str.ofString "quot;"]
  | 4 => [Str.ofString "", Str.ofString "#09;", Str.ofString "", Str.ofString "#x9;"]
  | _ => [Str.ofString "", Str.ofString "", Str.ofString "", Str.ofString ""]
noncomputable def charS (p : Nat) : Str := Txt.item (Str.ofString "&<>\"\ta") p
noncomputable def spell (p : Nat) : List Nat → Str
  | [] => charS p
  | k :: r => if (tblS p).getD k Str.empty != Str.ofString "" then (Str.ofString "&" ++ Txt.mul (Str.ofString "amp;") (r.length : Int)) ++ (tblS p).getD k Str.empty else spell p r

/-- the table of spells as it lies -/
noncomputable def TblAt (X : List Addr) (sp : Addr) (h : Heap) : Prop := ∃ rows : List Value, h.get? sp = some (lo rows 0) ∧ rows.length = 6 ∧ ∀ p, p < 6 → ∃ a vs, rows[p]? = some (.ref a) ∧ a ∉ X ∧ h.get? a = some (lo vs 0) ∧ StrsAre vs (tblS p)
theorem TblAt.stab {X : List Addr} {sp : Addr} {h h' : Heap} (t : TblAt X sp h) (hs : sp ∉ X) (hk : ∀ b o, b ∉ X → h.get? b = some o → h'.get? b = some o) : TblAt X sp h' := by
  obtain ⟨rows, h1, h2, h3⟩ := t
  refine ⟨rows, hk _ _ hs h1, h2, fun p hp => ?_⟩
  obtain ⟨a, vs, e1, e2, e3, e4⟩ := h3 p hp
  exact ⟨a, vs, e1, e2, hk _ _ e2 e3, e4⟩
theorem TblAt.fresh {X : List Addr} {sp : Addr} {h : Heap} (t : TblAt X sp h) : TblAt (h.objs.size :: X) sp h := by
  obtain ⟨rows, h1, h2, h3⟩ := t
  refine ⟨rows, h1, h2, fun p hp => ?_⟩
  obtain ⟨a, vs, e1, e2, e3, e4⟩ := h3 p hp
  refine ⟨a, vs, e1, fun q => ?_, e3, e4⟩
  rcases List.mem_cons.mp q with q | q
  · exact absurd (Heap.lt_size e3) (q ▸ Nat.lt_irrefl _)
  · exact e2 q
theorem strsAre_at {vs : List Value} {xs : List Str} (h : StrsAre vs xs) {i : Nat} {x : Str} (hx : xs[i]? = some x) : ∃ t, vs[i]? = some (.str x t) := by
  induction h generalizing i with
  | nil => simp at hx
  | cons y t _ ih =>
    cases i with
    | zero => simp at hx; exact ⟨t, by simp [hx]⟩
    | succ i => simp at hx; obtain ⟨t', e⟩ := ih hx; exact ⟨t', by simpa using e⟩
theorem tblS_len (p : Nat) : (tblS p).length = 4 := by unfold tblS; split <;> rfl

theorem swaps_list {elts : List PySem.Expr} {p : Pos} {t : Option PySem.Expr} {n : Nat} {env : Env} : swapsWith (.List elts p) t n env = pure false := rfl
theorem spC {M : Model} {A : Around} {E : Value → Shared → Prop} {hp : Heap} {gs : Array GenState} {dr : Drawn} {tk : Nat} {os : OsState} {env : Env} {rest : List PySem.Expr} {pos p : Pos} {x : Str} {k : Nat} {Q : List Value → Shared → Prop}
    (h : ∀ t' tk', wpAny M A (spliced (backTo pos (starEach rest env))) (fun vs s₂ => Q (.str x t' :: vs) s₂) E ⟨hp, gs, dr, tk', os⟩) : wpAny M A (spliced (backTo pos (starEach (.Constant (.str x) k p :: rest) env))) Q E ⟨hp, gs, dr, tk, os⟩ :=
  spliced_more (constS h) rfl
theorem spL4 {M : Model} {A : Around} {E : Value → Shared → Prop} {hp : Heap} {gs : Array GenState} {dr : Drawn} {tk : Nat} {os : OsState} {env : Env} {rest : List PySem.Expr} {pos p p1 p2 p3 p4 : Pos} {x1 x2 x3 x4 : Str} {k1 k2 k3 k4 : Nat} {Q : List Value → Shared → Prop}
    {L : Addr} {g : Heap} {m : Str → Option Value} (F : Fr g L hp m)
    (h : ∀ h' l tk' t1 t2 t3 t4, Fr g L h' m → (∀ b o, hp.get? b = some o → h'.get? b = some o) → h'.get? l = some (lo [.str x1 t1, .str x2 t2, .str x3 t3, .str x4 t4] 0) → (∀ b o, hp.get? b = some o → b ≠ l) → l ≠ L →
      wpAny M A (spliced (backTo pos (starEach rest env))) (fun vs s₂ => Q (.ref l :: vs) s₂) E ⟨h', gs, dr, tk', os⟩) :
    wpAny M A (spliced (backTo pos (starEach (.List [.Constant (.str x1) k1 p1, .Constant (.str x2) k2 p2, .Constant (.str x3) k3 p3, .Constant (.str x4) k4 p4] p :: rest) env))) Q E ⟨hp, gs, dr, tk, os⟩ :=
  spliced_more (List_ (spC fun t1 _ => spC fun t2 _ => spC fun t3 _ => spC fun t4 tk' => spliced_none (newF F (by simp) fun h' l F' K o n nL _ => h h' l tk' t1 t2 t3 t4 F' K o n nL))) rfl

theorem spell_cons {p k : Nat} {r : List Nat} : spell p (k :: r) = if (tblS p).getD k Str.empty != Str.ofString "" then (Str.ofString "&" ++ Txt.mul (Str.ofString "amp;") (r.length : Int)) ++ (tblS p).getD k Str.empty else spell p r := rfl
theorem tblS_short : ∀ p, p < 6 → ∀ k, k < 4 → ((tblS p).getD k Str.empty).length ≤ 5 := by
  intro p hp k hk
  have h1 : p = 0 ∨ p = 1 ∨ p = 2 ∨ p = 3 ∨ p = 4 ∨ p = 5 := by lia
  have h2 : k = 0 ∨ k = 1 ∨ k = 2 ∨ k = 3 := by lia
  rcases h1 with rfl | rfl | rfl | rfl | rfl | rfl <;> rcases h2 with rfl | rfl | rfl | rfl <;> decide +kernel
theorem mul_amp (r : Nat) (h : r ≤ 3) : MulOk (Str.ofString "amp;") r ∧ (Str.ofString "&").length + (Txt.mul (Str.ofString "amp;") r).length ≤ sizeLine ∧ (Str.ofString "&").length + (Txt.mul (Str.ofString "amp;") r).length ≤ 13 := by
  have h1 : r = 0 ∨ r = 1 ∨ r = 2 ∨ r = 3 := by lia
  unfold MulOk
  rcases h1 with rfl | rfl | rfl | rfl <;> decide +kernel

inductive SpQ (s : Shared) (g : Heap) (L : Addr) (p : Nat) (tp : Tok) (ws : List Nat) (fl : Flow) (s' : Shared) : Prop
  | mk (h' : Heap) (tk : Nat) (m' : Str → Option Value) (es : s' = { s with heap := h', toks := tk }) (F : Fr g L h' m') (r : (fl = .next ∧ m' "place" = some (.int p tp) ∧ spell p ws = charS p) ∨ ∃ t', fl = .ret (.str (spell p ws) t'))
theorem spelled_spec {prog : Program} {w : World} {A : Around} {s : Shared} {mg mb : Str → Option Value} {R : Result → Shared → Prop} {p : Nat} {tp : Tok} {wl : Addr} {wvs : List Value} {ws : List Nat} {e : Nat}
    (S : Site w mg mb s.heap) (hroom : A.depth < recursionLimit) (hh : A.handled = none) (hp : p < 6) (hw : s.heap.get? wl = some (lo wvs e)) (hws : IntsAre wvs (ws.map Int.ofNat)) (hlt4 : ∀ k ∈ ws, k < 4) (hl3 : ws.length ≤ 3)
    (h : ∀ h' tk t', Kept [] s.heap h' → R (.ok (.ret (.str (spell p ws) t'))) { s with heap := h', toks := tk }) :
    codeAny (model prog w) A (.call (.ref 145) ⟨[.int p tp, .ref wl], []⟩) R s := by
  refine enterX S (by rfl) (by rfl) (by lia) (BindsTo.of_eq rfl) (locs rfl) fun h₁ A' m0 tk0 T _ _ hhA hm0 F hT _ => ?_
  replace hhA := hhA.trans hh
  have mp : m0 "place" = some (.int p tp) := hm0 _
  have mw : m0 "writers" = some (.ref wl) := hm0 _
  clear hm0
  have hwl : wvs.length = ws.length := by rw [hws.length, List.length_map]
  have hwlt := Heap.lt_size hw
  generalize hg : s.heap = g at *
  generalize hLs : g.objs.size = L at *
  have hwL : wl ≠ L := Nat.ne_of_lt hwlt
  refine wpAny_execs_cons ?_
  with_reducible refine wpAny_Assign_Name ?hh1 ?hh2
  case hh2 => exact swaps_list
  with_reducible refine List_ ?_
  with_reducible refine spL4 F fun h2 l2 k2 ta2 tb2 tc2 td2 F2 K2 o2 n2 nL2 => ?_
  with_reducible refine spL4 F2 fun h3 l3 k3 ta3 tb3 tc3 td3 F3 K3 o3 n3 nL3 => ?_
  with_reducible refine spL4 F3 fun h4 l4 k4 ta4 tb4 tc4 td4 F4 K4 o4 n4 nL4 => ?_
  with_reducible refine spL4 F4 fun h5 l5 k5 ta5 tb5 tc5 td5 F5 K5 o5 n5 nL5 => ?_
  with_reducible refine spL4 F5 fun h6 l6 k6 ta6 tb6 tc6 td6 F6 K6 o6 n6 nL6 => ?_
  with_reducible refine spL4 F6 fun h7 l7 k7 ta7 tb7 tc7 td7 F7 K7 o7 n7 nL7 => ?_
  with_reducible refine spliced_none ?_
  refine newF F7 (by simp) fun h8 sp F8 K8 o8 n8 nL8 _ => ?_
  refine stF F8 fun h9 k9 F9 K9 => ?_
  have spL : sp ∉ [L] := by simp [nL8]
  have tb : TblAt [L] sp h9 := by
    refine ⟨_, K9 _ _ nL8 o8, rfl, fun q hq => ?_⟩
    have hq' : q = 0 ∨ q = 1 ∨ q = 2 ∨ q = 3 ∨ q = 4 ∨ q = 5 := by lia
    rcases hq' with rfl | rfl | rfl | rfl | rfl | rfl
    · exact ⟨l2, _, rfl, by simp [nL2], K9 _ _ nL2 (K8 _ _ (K7 _ _ (K6 _ _ (K5 _ _ (K4 _ _ (K3 _ _ o2)))))), .cons _ _ (.cons _ _ (.cons _ _ (.cons _ _ .nil)))⟩
    · exact ⟨l3, _, rfl, by simp [nL3], K9 _ _ nL3 (K8 _ _ (K7 _ _ (K6 _ _ (K5 _ _ (K4 _ _ o3))))), .cons _ _ (.cons _ _ (.cons _ _ (.cons _ _ .nil)))⟩
    · exact ⟨l4, _, rfl, by simp [nL4], K9 _ _ nL4 (K8 _ _ (K7 _ _ (K6 _ _ (K5 _ _ o4)))), .cons _ _ (.cons _ _ (.cons _ _ (.cons _ _ .nil)))⟩
    · exact ⟨l5, _, rfl, by simp [nL5], K9 _ _ nL5 (K8 _ _ (K7 _ _ (K6 _ _ o5))), .cons _ _ (.cons _ _ (.cons _ _ (.cons _ _ .nil)))⟩
    · exact ⟨l6, _, rfl, by simp [nL6], K9 _ _ nL6 (K8 _ _ (K7 _ _ o6)), .cons _ _ (.cons _ _ (.cons _ _ (.cons _ _ .nil)))⟩
    · exact ⟨l7, _, rfl, by simp [nL7], K9 _ _ nL7 (K8 _ _ o7), .cons _ _ (.cons _ _ (.cons _ _ (.cons _ _ .nil)))⟩
  clear o2 o3 o4 o5 o6 o7 K2 K3 K4 K5 K6 K7 n2 n3 n4 n5 n6 n7
  -- for k in range(len(writers))
  refine wpAny_execs_cons (wpAny_mono (Q := SpQ s g L p tp ws) (E := fun _ _ => False) ?_ ?_ fun _ _ x => x)
  · refine wpAny_For (Call_ (globBF F9 S (by rfl) boot_range (by decide) (Pv.callWith_type1 (spliced_more (Call_ (globBF F9 S (by rfl) boot_len (by decide) (callWith_builtin1 (spliced_more (ldF F9 mw (spliced_none ?_))))))))))
    refine lenF (F9.keep _ _ hw) (by lia) fun tz tkz => spliced_none (call_range_1 ?_)
    rw [hwl]
    have F10 := F9.push ({ cls := .type "range", data := .fields #[.int 0 tkz, .int ws.length tz, .int 1 (tkz + 1)] } : Obj)
    have hr := IsRange.new h9 0 ws.length 1 tkz tz (tkz + 1)
    have K10 : ∀ b o, h9.get? b = some o → (h9.push ({ cls := .type "range", data := .fields #[.int 0 tkz, .int ws.length tz, .int 1 (tkz + 1)] } : Obj)).get? b = some o := fun b o e => Heap.get?_push_of_some _ e
    show wpAny _ _ (pyIter (.ref h9.objs.size)) _ _ { s with heap := h9.push ({ cls := .type "range", data := .fields #[.int 0 tkz, .int ws.length tz, .int 1 (tkz + 1)] } : Obj), toks := _ }
    generalize h9.push ({ cls := .type "range", data := .fields #[.int 0 tkz, .int ws.length tz, .int 1 (tkz + 1)] } : Obj) = h10 at *
    have tb10 : TblAt [L] sp h10 := tb.stab spL fun b o _ e => K10 b o e
    have spI : sp ∉ [h10.objs.size, L] := by
      have := Heap.lt_size (K10 _ _ (K9 _ _ nL8 o8))
      simp [nL8, Nat.ne_of_lt this]
    have hsm : Builtin.Range.small 0 ws.length 1 = true ∧ Builtin.Range.rangeSize 0 ws.length 1 = ws.length := by
      have : ws.length = 0 ∨ ws.length = 1 ∨ ws.length = 2 ∨ ws.length = 3 := by lia
      rcases this with q | q | q | q <;> rw [q] <;> exact ⟨rfl, rfl⟩
    refine for_range (s := { s with heap := h10, toks := _ }) (fun i m h => m "place" = some (.int p tp) ∧ m "writers" = some (.ref wl) ∧ m "spells" = some (.ref sp) ∧ TblAt [h10.objs.size, L] sp h ∧ spell p ws = spell p (ws.drop i)) hhA hr hsm.1 hsm.2 F10 ⟨mp, mw, rfl, tb10.fresh, rfl⟩ ?_ ?_ ?_
    · rintro i m h h' ⟨e1, e2, e3, e4, e5⟩ hk
      refine ⟨e1, e2, e3, e4.stab spI fun b o hb e => ?_, e5⟩
      simp only [List.mem_cons, List.not_mem_nil, or_false, not_or] at hb
      exact hk b o hb.1 hb.2 e
    · rintro i ti m1 h11 k11 hi ⟨e1, e2, e3, ⟨rows, r1, r2, r3⟩, e5⟩ _ F11
      refine wpAny_hide fun T2 hT2 => ?_
      obtain ⟨ra, vs, q1, _, q3, q4⟩ := r3 p hp
      have hwi : ws[i]? = some ws[i] := by simp [hi]
      have hki : ws[i] < 4 := hlt4 _ (List.getElem_mem hi)
      obtain ⟨tw, hwv⟩ := hws.get i (ws[i] : Int) (by simp [hi])
      have hx : (tblS p)[ws[i]]? = some ((tblS p).getD ws[i] Str.empty) := by
        rw [List.getD_eq_getElem?_getD, List.getElem?_eq_getElem (by rw [tblS_len]; exact hki)]; rfl
      obtain ⟨tx, hxv⟩ := strsAre_at q4 hx
      have hdrop : ws.drop i = ws[i] :: ws.drop (i + 1) := List.drop_eq_getElem_cons hi
      have hwk := F11.keep _ _ hw
      have hw60 : ws.length < 2 ^ 60 := Nat.lt_of_le_of_lt hl3 (by decide)
      refine wpAny_execs_cons (wpAny_If (wpAny_isTrue_Compare1 (Subscript_ (Subscript_ (ldF F11 e3 (ldF F11 e1 (itemF r1 (Int.natCast_nonneg _) (n63 hp (by decide)) q1 (Subscript_ (ldF F11 e2 (ldF F11 rfl (itemF hwk (Int.natCast_nonneg _) (n63 hi hw60) hwv ?_)))))))))))
      refine itemF q3 (Int.natCast_nonneg _) (n63 hki (by decide)) hxv ?_
      refine constS fun _ _ => ne_str (wpAny_truthy_bool ?_)
      rw [hdrop] at e5
      rw [spell_cons] at e5
      have htl := tblS_short p hp ws[i] hki
      generalize (tblS p).getD ws[i] Str.empty = tx1 at *
      by_cases hb : (tx1 != Str.ofString "") = true
      · rw [if_pos hb] at e5
        refine itT hb ?_
        have hcnt : ((wvs.length : Int) - (i : Int) - 1) = ((ws.drop (i + 1)).length : Nat) := by rw [hwl, List.length_drop]; lia
        have hdl : (ws.drop (i + 1)).length ≤ 3 := by rw [List.length_drop]; lia
        obtain ⟨hm1, hm2⟩ := mul_amp _ hdl
        refine wpAny_execs_cons (wpAny_Return_some (wpAny_BinOp (wpAny_BinOp (constS fun _ _ => wpAny_BinOp (constS fun _ _ => wpAny_BinOp (wpAny_BinOp (Call_ (globBF F11 S (by rfl) boot_len (by decide) (callWith_builtin1 (spliced_more (ldF F11 e2 (spliced_none (lenF hwk (by lia) fun _ _ => ldF F11 rfl (subF fun _ _ => constI fun _ _ => subF fun _ _ => ?_))))))))))))))
        rw [hcnt]
        refine SB.mul hm1 fun _ _ => addSF (fun _ _ => ?_) hm2.1
        refine Subscript_ (Subscript_ (ldF F11 e3 (ldF F11 e1 (itemF r1 (Int.natCast_nonneg _) (n63 hp (by decide)) q1 (Subscript_ (ldF F11 e2 (ldF F11 rfl (itemF hwk (Int.natCast_nonneg _) (n63 hi hw60) hwv (itemF q3 (Int.natCast_nonneg _) (n63 hki (by decide)) hxv (addSF (fun t' tk' => ?_) (by have := hm2.2; rw [Str.length_append, sizeLine_eq]; lia)))))))))))
        exact hT2 (.ret _) _ ⟨h11, tk', _, rfl, F11, .inr ⟨t', by rw [e5]⟩⟩
      · rw [if_neg hb] at e5
        refine itF (Bool.eq_false_iff.mpr hb) ?_
        exact wpAny_execs_nil (wpAny_execs_nil (hT2 .next _ ⟨h11, _, _, rfl, F11, ⟨e1, e2, e3, ⟨rows, r1, r2, r3⟩, e5⟩, fun b _ o e => e⟩))
    · rintro h11 k11 m11 ⟨e1, _, _, _, e5⟩ F11
      refine ⟨h11, k11, m11, rfl, F11, .inl ⟨rfl, e1, ?_⟩⟩
      rw [e5, List.drop_length]; rfl
  · rintro fl s' ⟨h10, k10, m10, rfl, F10, ⟨rfl, e1, e2⟩ | ⟨t', rfl⟩⟩
    · rw [e2] at h
      refine wpAny_execs_cons (wpAny_Return_some (Subscript_ (constS fun _ _ => ldF F10 e1 (itemSF (fitsSsize_of (N := 9223372036854775808) (by lia) (by lia) (Int.le_refl _)) (by lia) (by show (p : Int) < ((Str.ofString "&<>\"\ta").length : Int); rw [show (Str.ofString "&<>\"\ta").length = 6 by decide +kernel]; lia) fun _ _ => ?_))))
      exact hT _ _ (h h10 _ _ fun b o _ e => F10.keep b o e)
    · exact hT _ _ (h h10 _ t' fun b o _ e => F10.keep b o e)
end Mine

section
open PySem PySem.SetTable
namespace Mine

/-! the table: below, slot, put -/
noncomputable def Rising (l : List Nat) : Prop := l.Pairwise (· < ·)
theorem rising_lt {l : List Nat} (h : Rising l) {i j : Nat} {x y : Nat} (hi : l[i]? = some x) (hj : l[j]? = some y) (hij : i < j) : x < y := by
  have hj' : j < l.length := by
    rcases Nat.lt_or_ge j l.length with q | q
    · exact q
    · rw [List.getElem?_eq_none q] at hj; cases hj
  have hi' : i < l.length := by lia
  have := (List.pairwise_iff_getElem.mp h) i j hi' hj' hij
  rw [List.getElem?_eq_getElem hi'] at hi
  rw [List.getElem?_eq_getElem hj'] at hj
  rw [← Option.some.inj hi, ← Option.some.inj hj]
  exact this

/-- the border: before it all is less, from it on nothing is -/
noncomputable def Border (l : List Nat) (j b : Nat) : Prop := b ≤ l.length ∧ (∀ i x, i < b → l[i]? = some x → x < j) ∧ ∀ i x, b ≤ i → l[i]? = some x → j ≤ x
theorem below_go {l : List Nat} (hr : Rising l) (j : Nat) : ∀ (fuel lo hi : Nat), hi - lo ≤ fuel → lo ≤ hi → hi ≤ l.length → (∀ i x, i < lo → l[i]? = some x → x < j) → (∀ i x, hi ≤ i → l[i]? = some x → j ≤ x) → Border l j (below.go l.toArray j fuel lo hi)
  | 0, lo, hi, hf, h1, h2, h3, h4 => by
    have : lo = hi := by lia
    subst this
    exact ⟨h2, h3, h4⟩
  | fuel + 1, lo, hi, hf, h1, h2, h3, h4 => by
    unfold below.go
    by_cases hlt : lo < hi
    · rw [if_pos hlt]
      have hm1 : lo ≤ (lo + hi) / 2 := by lia
      have hm2 : (lo + hi) / 2 < hi := by lia
      dsimp only
      generalize (lo + hi) / 2 = mid at *
      have hm : mid < l.length := Nat.lt_of_lt_of_le hm2 h2
      have hg : l.toArray.getD mid j = l[mid] := by simp [Array.getD, hm]
      have hsm : l[mid]? = some l[mid] := List.getElem?_eq_getElem hm
      rw [hg]
      by_cases hc : l[mid] < j
      · rw [if_pos hc]
        refine below_go hr j fuel _ hi (by lia) hm2 h2 (fun i x hi' e => ?_) h4
        rcases Nat.lt_or_eq_of_le (Nat.le_of_lt_succ hi') with q | q
        · exact Nat.lt_trans (rising_lt hr e hsm q) hc
        · subst q; rw [hsm] at e; rw [← Option.some.inj e]; exact hc
      · rw [if_neg hc]
        refine below_go hr j fuel lo _ (by lia) hm1 (Nat.le_of_lt hm) h3 (fun i x hi' e => ?_)
        rcases Nat.lt_or_eq_of_le hi' with q | q
        · exact Nat.le_of_lt (Nat.lt_of_le_of_lt (Nat.le_of_not_lt hc) (rising_lt hr hsm e q))
        · subst q; rw [hsm] at e; rw [← Option.some.inj e]; exact Nat.le_of_not_lt hc
    · rw [if_neg hlt]
      have : lo = hi := by lia
      subst this
      exact ⟨h2, h3, h4⟩
theorem below_border {l : List Nat} (hr : Rising l) (j : Nat) : Border l j (below l.toArray j) := by
  unfold below
  exact below_go hr j _ 0 _ (by simp) (Nat.zero_le _) (by simp) (fun i x hi => absurd hi (Nat.not_lt_zero _)) (fun i x hi e => by
    rw [List.size_toArray] at hi; rw [List.getElem?_eq_none hi] at e; cases e)

theorem below_at {l : List Nat} (hr : Rising l) {i j : Nat} (h : l[i]? = some j) : below l.toArray j = i := by
  obtain ⟨h1, h2, h3⟩ := below_border hr j
  generalize below l.toArray j = b at *
  rcases Nat.lt_trichotomy b i with q | q | q
  · have hb : b < l.length := by
      rcases Nat.lt_or_ge i l.length with r | r
      · lia
      · rw [List.getElem?_eq_none r] at h; cases h
    have e := List.getElem?_eq_getElem hb
    have a1 := rising_lt hr e h q
    have a2 := h3 b _ (Nat.le_refl _) e
    lia
  · exact q
  · exact absurd (h2 i j q h) (Nat.lt_irrefl _)

/-- a table without dummies over rising places -/
structure Tab (t : SetTable) (l : List Nat) : Prop where
  place : t.place = l.toArray
  dum : t.dummies = #[]
  rise : Rising l
theorem slot_live {t : SetTable} {l : List Nat} (T : Tab t l) {i j : Nat} (h : l[i]? = some j) : t.slot j = .live i := by
  unfold SetTable.slot
  simp only [T.place, below_at T.rise h, List.getElem?_toArray, h, beq_self_eq_true, if_true]
theorem has_nil (j : Nat) : SetTable.has #[] j = false := by unfold SetTable.has; simp
theorem slot_empty {t : SetTable} {l : List Nat} (T : Tab t l) {j : Nat} (h : j ∉ l) : t.slot j = .empty := by
  unfold SetTable.slot
  simp only [T.place, List.getElem?_toArray]
  have : (l[below l.toArray j]? == some j) = false := by
    apply beq_eq_false_iff_ne.mpr
    intro q
    exact h (List.mem_of_getElem? q)
  rw [this, T.dum, has_nil]
  simp
theorem insertAt_list {α : Type} (l : List α) (p : Nat) (x : α) : SetTable.insertAt l.toArray p x = (l.take p ++ x :: l.drop p).toArray := by
  unfold SetTable.insertAt
  apply Array.toList_inj.mp
  rw [Array.toList_append, Array.toList_push, Array.toList_extract, Array.toList_extract]
  have e1 : l.toArray.toList.extract 0 p = l.take p := by simp [List.extract]
  have e2 : l.toArray.toList.extract p l.toArray.size = l.drop p := by
    simp only [List.extract]
    rw [List.size_toArray]
    exact List.take_of_length_le (by rw [List.length_drop]; exact Nat.le_refl _)
  rw [e1, e2]
  simp

theorem rising_insert {l : List Nat} (hr : Rising l) {j : Nat} (hj : j ∉ l) : Rising (l.take (below l.toArray j) ++ j :: l.drop (below l.toArray j)) := by
  obtain ⟨h1, h2, h3⟩ := below_border hr j
  generalize below l.toArray j = b at *
  unfold Rising at *
  rw [List.pairwise_append, List.pairwise_cons]
  have hd : ∀ a ∈ l.drop b, j < a := fun a ha => by
    obtain ⟨i, hi⟩ := List.mem_iff_getElem?.mp ha
    rw [List.getElem?_drop] at hi
    have := h3 (b + i) a (Nat.le_add_right _ _) hi
    rcases Nat.lt_or_eq_of_le this with q | q
    · exact q
    · subst q; exact absurd (List.mem_of_getElem? hi) hj
  have ht : ∀ a ∈ l.take b, a < j := fun a ha => by
    obtain ⟨i, hi⟩ := List.mem_iff_getElem?.mp ha
    rw [List.getElem?_take] at hi
    split at hi
    · rename_i q; exact h2 i a q hi
    · cases hi
  refine ⟨hr.sublist (List.take_sublist _ _), ⟨hd, hr.sublist (List.drop_sublist _ _)⟩, fun a ha c hc => ?_⟩
  rcases List.mem_cons.mp hc with rfl | hc
  · exact ht a ha
  · exact Nat.lt_trans (ht a ha) (hd c hc)

/-! the probe's path -/
noncomputable def adv (mask : Nat) (p : Probe) : Probe :=
  if p.more > 0 then { p with j := p.j + 1, more := p.more - 1 } else
  let (i, perturb) := leap mask p.i p.perturb
  { p with j := i, more := runEnd mask i - i, i, perturb }
theorem adv_eq (t : SetTable) (p : Probe) : t.advance p = adv t.mask p := rfl
noncomputable def lvl (mask : Nat) (x : Nat × Nat) : Probe := { j := x.1, more := runEnd mask x.1 - x.1, i := x.1, perturb := x.2, dummy := none }
noncomputable def start (mask : Nat) (h : Int) : Probe := lvl mask (bits h % (mask + 1), bits h)
theorem start_eq (t : SetTable) (h : Int) : t.probeStart h = start t.mask h := rfl
noncomputable def pth (mask : Nat) (h : Int) : Nat → Probe
  | 0 => start mask h
  | n + 1 => adv mask (pth mask h n)
noncomputable def lp (mask : Nat) (h : Int) : Nat → Nat × Nat
  | 0 => (bits h % (mask + 1), bits h)
  | n + 1 => leap mask (lp mask h n).1 (lp mask h n).2
theorem pth_dummy (mask : Nat) (h : Int) : ∀ n, (pth mask h n).dummy = none
  | 0 => rfl
  | n + 1 => by
    show (adv mask (pth mask h n)).dummy = none
    unfold adv
    split
    · exact pth_dummy mask h n
    · exact pth_dummy mask h n
theorem more_le (mask i : Nat) : runEnd mask i - i ≤ 9 := by unfold runEnd; split <;> lia
/-- within a run -/
theorem run_at (mask : Nat) (h : Int) (n : Nat) (x : Nat × Nat) (hn : pth mask h n = lvl mask x) : ∀ k, k ≤ runEnd mask x.1 - x.1 →
    pth mask h (n + k) = { j := x.1 + k, more := runEnd mask x.1 - x.1 - k, i := x.1, perturb := x.2, dummy := none }
  | 0, _ => by rw [Nat.add_zero, hn]; rfl
  | k + 1, hk => by
    have ih := run_at mask h n x hn k (by lia)
    show adv mask (pth mask h (n + k)) = _
    rw [ih]
    unfold adv
    dsimp only
    rw [if_pos (by lia)]
    congr 1
theorem lvl_at (mask : Nat) (h : Int) : ∀ ℓ, ∃ n, n ≤ 10 * ℓ ∧ pth mask h n = lvl mask (lp mask h ℓ)
  | 0 => ⟨0, Nat.le_refl _, rfl⟩
  | ℓ + 1 => by
    obtain ⟨n, hn, e⟩ := lvl_at mask h ℓ
    have hr := run_at mask h n _ e _ (Nat.le_refl _)
    have hm := more_le mask (lp mask h ℓ).1
    refine ⟨n + (runEnd mask (lp mask h ℓ).1 - (lp mask h ℓ).1) + 1, by lia, ?_⟩
    show adv mask (pth mask h _) = _
    rw [hr]
    unfold adv
    dsimp only
    rw [if_neg (by lia)]
    rfl
theorem pert_at (mask : Nat) (h : Int) : ∀ ℓ, (lp mask h ℓ).2 = bits h / 32 ^ ℓ
  | 0 => by simp [lp]
  | ℓ + 1 => by
    show (leap mask (lp mask h ℓ).1 (lp mask h ℓ).2).2 = _
    unfold leap
    dsimp only
    rw [pert_at mask h ℓ, Nat.div_div_eq_div_mul, Nat.pow_succ]
theorem bits_lt (h : Int) : bits h < 2 ^ 64 := by
  unfold bits
  have h1 : 0 ≤ h % (2 ^ 64 : Int) := Int.emod_nonneg _ (by decide)
  have h2 : h % (2 ^ 64 : Int) < 2 ^ 64 := Int.emod_lt_of_pos _ (by decide)
  have e : (2 : Int) ^ 64 = 18446744073709551616 := by decide
  have e2 : (2 : Nat) ^ 64 = 18446744073709551616 := by decide
  rw [e] at h1 h2 ⊢
  rw [e2]
  lia
theorem pert_zero (mask : Nat) (h : Int) (ℓ : Nat) (hℓ : 13 ≤ ℓ) : (lp mask h ℓ).2 = 0 := by
  rw [pert_at]
  have h1 := bits_lt h
  have h2 : 32 ^ 13 ≤ 32 ^ ℓ := Nat.pow_le_pow_right (by decide) hℓ
  have h3 : (2 : Nat) ^ 64 ≤ 32 ^ 13 := by decide
  exact Nat.div_eq_of_lt (by lia)
noncomputable def orb (mask : Nat) : Nat → Nat → Nat
  | 0, i => i
  | n + 1, i => (orb mask n i * 5 + 1) % (mask + 1)
theorem lp_orb (mask : Nat) (h : Int) : ∀ m, (lp mask h (13 + m)).1 = orb mask m (lp mask h 13).1
  | 0 => rfl
  | m + 1 => by
    show (leap mask (lp mask h (13 + m)).1 (lp mask h (13 + m)).2).1 = _
    unfold leap
    dsimp only
    rw [pert_zero mask h (13 + m) (by lia), lp_orb mask h m]
    rfl
theorem lp_lt (mask : Nat) (h : Int) : ∀ ℓ, (lp mask h ℓ).1 < mask + 1
  | 0 => Nat.mod_lt _ (Nat.succ_pos _)
  | ℓ + 1 => Nat.mod_lt _ (Nat.succ_pos _)
theorem orb_add (mask : Nat) (a b i : Nat) : orb mask (a + b) i = orb mask a (orb mask b i) := by
  induction a with
  | zero => rw [Nat.zero_add]; rfl
  | succ a ih => rw [Nat.succ_add]; show (orb mask (a + b) i * 5 + 1) % _ = _; rw [ih]; rfl
/-- every slot is met: one list for each size -/
noncomputable def orbL (mask : Nat) : Nat → Nat → List Nat
  | 0, _ => []
  | n + 1, i => i :: orbL mask n ((i * 5 + 1) % (mask + 1))
theorem orb_succ' (mask n i : Nat) : orb mask (n + 1) i = orb mask n ((i * 5 + 1) % (mask + 1)) := by
  have := orb_add mask n 1 i
  rw [this]; rfl
theorem orbL_mem (mask : Nat) : ∀ (n i j : Nat), j ∈ orbL mask n i → ∃ m, m < n ∧ orb mask m i = j
  | 0, _, _, h => by simp [orbL] at h
  | n + 1, i, j, h => by
    simp only [orbL, List.mem_cons] at h
    rcases h with rfl | h
    · exact ⟨0, Nat.succ_pos _, rfl⟩
    · obtain ⟨m, hm, e⟩ := orbL_mem mask n _ j h
      exact ⟨m + 1, by lia, by rw [orb_succ']; exact e⟩
noncomputable def orbOk (mask : Nat) : Bool := orb mask (mask + 1) 0 == 0 && (List.range (mask + 1)).all fun j => (orbL mask (mask + 1) 0).contains j
theorem orb_all {mask : Nat} (ok : orbOk mask = true) {a j : Nat} (ha : a ≤ mask) (hj : j ≤ mask) : ∃ m, m ≤ mask ∧ orb mask m a = j := by
  unfold orbOk at ok
  rw [Bool.and_eq_true] at ok
  have h0 : orb mask (mask + 1) 0 = 0 := by simpa using ok.1
  have hall := ok.2
  rw [List.all_eq_true] at hall
  obtain ⟨ma, h1, e1⟩ := orbL_mem mask _ _ _ (List.contains_iff_mem.mp (hall a (List.mem_range.mpr (Nat.lt_succ_of_le ha))))
  obtain ⟨mj, h2, e2⟩ := orbL_mem mask _ _ _ (List.contains_iff_mem.mp (hall j (List.mem_range.mpr (Nat.lt_succ_of_le hj))))
  by_cases hle : ma ≤ mj
  · refine ⟨mj - ma, Nat.le_trans (Nat.sub_le _ _) (Nat.le_of_lt_succ h2), ?_⟩
    rw [← e1, ← orb_add, Nat.sub_add_cancel hle, e2]
  · refine ⟨mj + (mask + 1) - ma, by lia, ?_⟩
    rw [← e1, ← orb_add, Nat.sub_add_cancel (Nat.le_trans (Nat.le_of_lt h1) (Nat.le_add_left _ _)), orb_add, h0, e2]
theorem cover {mask : Nat} (ok : orbOk mask = true) (h : Int) {j : Nat} (hj : j ≤ mask) : ∃ n, n < 10 * turns mask ∧ (pth mask h n).j = j := by
  have h13 := lp_lt mask h 13
  obtain ⟨m, hm, e⟩ := orb_all ok (a := (lp mask h 13).1) (by lia) hj
  obtain ⟨n, hn, en⟩ := lvl_at mask h (13 + m)
  refine ⟨n, by unfold turns; lia, ?_⟩
  rw [en]
  show (lp mask h (13 + m)).1 = j
  rw [lp_orb, e]
theorem orbOk7 : orbOk 7 = true := by decide +kernel
theorem orbOk31 : orbOk 31 = true := by decide +kernel
theorem orbOk127 : orbOk 127 = true := by decide +kernel
end Mine

end
section
open PySem PySem.SetTable
namespace Mine

theorem nodup_sub_len : ∀ {a l : List Nat}, a.Nodup → (∀ x ∈ a, x ∈ l) → a.length ≤ l.length
  | [], _, _, _ => Nat.zero_le _
  | x :: a, l, hn, hs => by
    have hx : x ∈ l := hs x (by simp)
    rw [List.nodup_cons] at hn
    have ih := nodup_sub_len (a := a) (l := l.erase x) hn.2 fun y hy => (List.mem_erase_of_ne (a := y) (b := x) (fun q => hn.1 (by rw [← q]; exact hy))).mpr (hs y (by simp [hy]))
    rw [List.length_erase_of_mem hx] at ih
    have := List.length_pos_of_mem hx
    simp only [List.length_cons]
    lia
theorem some_free {l : List Nat} {mask : Nat} (h : l.length ≤ mask) : ∃ j, j ≤ mask ∧ j ∉ l := by
  apply Classical.byContradiction
  intro hn
  have hall : ∀ x ∈ List.range (mask + 1), x ∈ l := fun x hx => Classical.byContradiction fun q => hn ⟨x, Nat.le_of_lt_succ (List.mem_range.mp hx), q⟩
  have := nodup_sub_len List.nodup_range hall
  rw [List.length_range] at this
  lia
theorem least {p : Nat → Prop} : ∀ n, p n → ∃ m, m ≤ n ∧ p m ∧ ∀ k, k < m → ¬ p k := by
  intro n
  induction n using Nat.strongRecOn with
  | ind n ih =>
    intro h
    by_cases q : ∃ k, k < n ∧ p k
    · obtain ⟨k, hk, hp⟩ := q
      obtain ⟨m, a, b, c⟩ := ih k hk hp
      exact ⟨m, by lia, b, c⟩
    · exact ⟨n, Nat.le_refl _, h, fun k hk hp => q ⟨k, hk, hp⟩⟩
/-- the first free slot on h's path -/
theorem first_free {l : List Nat} {mask : Nat} (ok : orbOk mask = true) (hl : l.length ≤ mask) (h : Int) : ∃ N, N < 10 * turns mask ∧ (pth mask h N).j ∉ l ∧ ∀ m, m < N → (pth mask h m).j ∈ l := by
  obtain ⟨j, hj, hn⟩ := some_free hl
  obtain ⟨n, hn', e⟩ := cover ok h hj
  obtain ⟨N, a, b, c⟩ := least (p := fun n => (pth mask h n).j ∉ l) n (by rw [e]; exact hn)
  exact ⟨N, by lia, b, fun m hm => Classical.byContradiction (c m hm)⟩

theorem go_spec {t : SetTable} {l : List Nat} {mask : Nat} {h : Int} {hashAt : Nat → Int} (T : Tab t l) (hm : t.mask = mask) {N : Nat} (hN : (pth mask h N).j ∉ l) (hall : ∀ m, m < N → (pth mask h m).j ∈ l) :
    ∀ fuel n, n ≤ N → N - n < fuel →
    (∃ n' i, n ≤ n' ∧ n' < N ∧ l[i]? = some (pth mask h n').j ∧ hashAt i = h ∧ (∀ m i', n ≤ m → m < n' → l[i']? = some (pth mask h m).j → hashAt i' ≠ h) ∧
      probe.go t hashAt h fuel (pth mask h n) = some (.candidate (pth mask h n').j i (pth mask h (n' + 1)))) ∨
    ((∀ m i', n ≤ m → m < N → l[i']? = some (pth mask h m).j → hashAt i' ≠ h) ∧ probe.go t hashAt h fuel (pth mask h n) = some (.empty (pth mask h N).j none)) := by
  intro fuel
  induction fuel with
  | zero => intro n _ hf; exact absurd hf (Nat.not_lt_zero _)
  | succ fuel ih =>
    intro n hn hf
    by_cases he : n = N
    · subst he
      refine .inr ⟨fun m i' a b => absurd (Nat.lt_of_le_of_lt a b) (Nat.lt_irrefl _), ?_⟩
      unfold probe.go
      rw [slot_empty T hN, pth_dummy]
    · have hlt : n < N := by lia
      obtain ⟨i, hi⟩ := List.mem_iff_getElem?.mp (hall n hlt)
      have hadv : t.advance (pth mask h n) = pth mask h (n + 1) := by rw [adv_eq, hm]; rfl
      by_cases hh : hashAt i = h
      · refine .inl ⟨n, i, Nat.le_refl _, hlt, hi, hh, fun m i' a b => absurd (Nat.lt_of_le_of_lt a b) (Nat.lt_irrefl _), ?_⟩
        unfold probe.go
        rw [slot_live T hi]
        simp only [hh, beq_self_eq_true, if_true, hadv]
      · have hstep : probe.go t hashAt h (fuel + 1) (pth mask h n) = probe.go t hashAt h fuel (pth mask h (n + 1)) := by
          conv => lhs; unfold probe.go
          rw [slot_live T hi]
          have : (hashAt i == h) = false := beq_eq_false_iff_ne.mpr hh
          simp only [this, Bool.false_eq_true, if_false, hadv]
        have hex : ∀ m i', n ≤ m → m < n + 1 → l[i']? = some (pth mask h m).j → hashAt i' ≠ h := fun m i' a b e => by
          have : m = n := by lia
          subst this
          have e1 := slot_live T hi
          have e2 := slot_live T e
          rw [e1] at e2
          cases e2
          exact hh
        rcases ih (n + 1) (by lia) (by lia) with ⟨n', i', a, b, c, d, e, f⟩ | ⟨a, b⟩
        · refine .inl ⟨n', i', by lia, b, c, d, fun m i'' h1 h2 h3 => ?_, hstep.trans f⟩
          by_cases q : m < n + 1
          · exact hex m i'' h1 q h3
          · exact e m i'' (by lia) h2 h3
        · refine .inr ⟨fun m i'' h1 h2 h3 => ?_, hstep.trans b⟩
          by_cases q : m < n + 1
          · exact hex m i'' h1 q h3
          · exact a m i'' (by lia) h2 h3

structure TInv {P : Type} (hp : P → Int) (mask : Nat) (l : List Nat) (ps : List P) : Prop where
  len : l.length = ps.length
  rise : Rising l
  bound : ∀ j ∈ l, j ≤ mask
  reach : ∀ x ∈ l.zip ps, ∃ n, (pth mask (hp x.2) n).j = x.1 ∧ ∀ m, m < n → (pth mask (hp x.2) m).j ∈ l
  nodup : ps.Nodup

theorem zip_mem_of {P : Type} {l : List Nat} {ps : List P} {i : Nat} {j : Nat} {p : P} (h1 : l[i]? = some j) (h2 : ps[i]? = some p) : (j, p) ∈ l.zip ps := by
  apply List.mem_iff_getElem?.mpr
  exact ⟨i, by rw [List.getElem?_zip_eq_some]; exact ⟨h1, h2⟩⟩
theorem mem_of_idx {P : Type} {l : List Nat} {ps : List P} (hlen : l.length = ps.length) {i : Nat} {p : P} (h2 : ps[i]? = some p) : ∃ j, l[i]? = some j := by
  have hi : i < ps.length := by
    rcases Nat.lt_or_ge i ps.length with q | q
    · exact q
    · rw [List.getElem?_eq_none q] at h2; cases h2
  exact ⟨l[i]'(by lia), List.getElem?_eq_getElem (by lia)⟩

/-- a key that is there lies on its path ahead of the first free slot -/
theorem TInv.found {P : Type} {hp : P → Int} {mask : Nat} {l : List Nat} {ps : List P} (T : TInv hp mask l ps) {p : P} {N : Nat} (hN : (pth mask (hp p) N).j ∉ l) {i : Nat} (hi : ps[i]? = some p) :
    ∃ n, n < N ∧ l[i]? = some (pth mask (hp p) n).j := by
  obtain ⟨j, hj⟩ := mem_of_idx T.len hi
  obtain ⟨n, e, hall⟩ := T.reach _ (zip_mem_of hj hi)
  refine ⟨n, ?_, by rw [hj]; exact congrArg some e.symm⟩
  rcases Nat.lt_or_ge n N with q | q
  · exact q
  · exfalso
    rcases Nat.lt_or_eq_of_le q with r | r
    · exact hN (hall N r)
    · rw [r] at hN
      have e' : (pth mask (hp p) n).j = j := e
      rw [e'] at hN
      exact hN (List.mem_of_getElem? hj)

theorem zip_insert {P : Type} {l : List Nat} {ps : List P} (hlen : l.length = ps.length) (b : Nat) (j : Nat) (p : P) :
    (l.take b ++ j :: l.drop b).zip (ps.take b ++ p :: ps.drop b) = (l.zip ps).take b ++ (j, p) :: (l.zip ps).drop b := by
  rw [List.zip_append (by rw [List.length_take, List.length_take, hlen]), List.zip_cons_cons]
  simp [List.zip_eq_zipWith, List.take_zipWith, List.drop_zipWith]
theorem mem_take_drop {α : Type} {l : List α} {b : Nat} {x y : α} (h : x ∈ l.take b ++ y :: l.drop b) : x = y ∨ x ∈ l := by
  rcases List.mem_append.mp h with q | q
  · exact .inr (List.mem_of_mem_take q)
  · rcases List.mem_cons.mp q with q | q
    · exact .inl q
    · exact .inr (List.mem_of_mem_drop q)
theorem mem_take_drop' {α : Type} {l : List α} {b : Nat} {x y : α} (h : x ∈ l) : x ∈ l.take b ++ y :: l.drop b := by
  rw [← List.take_append_drop b l] at h
  rcases List.mem_append.mp h with q | q
  · exact List.mem_append_left _ q
  · exact List.mem_append_right _ (List.mem_cons_of_mem _ q)
theorem perm_insert {α : Type} (l : List α) (b : Nat) (y : α) : (l.take b ++ y :: l.drop b).Perm (y :: l) := by
  have := List.perm_middle (a := y) (l₁ := l.take b) (l₂ := l.drop b)
  rw [List.take_append_drop] at this
  exact this
theorem TInv.insert {P : Type} {hp : P → Int} {mask : Nat} {l : List Nat} {ps : List P} (T : TInv hp mask l ps) {p : P} {N : Nat} (hN : (pth mask (hp p) N).j ∉ l) (hall : ∀ m, m < N → (pth mask (hp p) m).j ∈ l)
    (hb : (pth mask (hp p) N).j ≤ mask) (hp' : p ∉ ps) :
    TInv hp mask (l.take (below l.toArray (pth mask (hp p) N).j) ++ (pth mask (hp p) N).j :: l.drop (below l.toArray (pth mask (hp p) N).j))
      (ps.take (below l.toArray (pth mask (hp p) N).j) ++ p :: ps.drop (below l.toArray (pth mask (hp p) N).j)) := by
  refine ⟨?_, rising_insert T.rise hN, fun j hj => ?_, fun x hx => ?_, ?_⟩
  · simp [T.len]
  · rcases mem_take_drop hj with rfl | q
    · exact hb
    · exact T.bound j q
  · rw [zip_insert T.len] at hx
    rcases mem_take_drop hx with rfl | q
    · exact ⟨N, rfl, fun m hm => mem_take_drop' (hall m hm)⟩
    · obtain ⟨n, e, h⟩ := T.reach x q
      exact ⟨n, e, fun m hm => mem_take_drop' (h m hm)⟩
  · exact (perm_insert ps _ p).nodup_iff.mpr (List.nodup_cons.mpr ⟨hp', T.nodup⟩)

theorem runEnd_le {mask i : Nat} (h : i ≤ mask) : runEnd mask i ≤ mask ∧ i ≤ runEnd mask i := by unfold runEnd; split <;> lia
theorem pth_ok (mask : Nat) (h : Int) : ∀ n, (pth mask h n).j + (pth mask h n).more = runEnd mask (pth mask h n).i ∧ (pth mask h n).i ≤ mask ∧ (pth mask h n).j ≤ mask
  | 0 => by
    have h1 : bits h % (mask + 1) ≤ mask := Nat.le_of_lt_succ (Nat.mod_lt _ (Nat.succ_pos _))
    have h2 := runEnd_le h1
    show (bits h % (mask + 1)) + (runEnd mask (bits h % (mask + 1)) - bits h % (mask + 1)) = runEnd mask (bits h % (mask + 1)) ∧ _ ∧ _
    exact ⟨Nat.add_sub_cancel' h2.2, h1, h1⟩
  | n + 1 => by
    have ih := pth_ok mask h n
    show (adv mask (pth mask h n)).j + (adv mask (pth mask h n)).more = runEnd mask (adv mask (pth mask h n)).i ∧ (adv mask (pth mask h n)).i ≤ mask ∧ (adv mask (pth mask h n)).j ≤ mask
    have h2 := runEnd_le ih.2.1
    generalize pth mask h n = q at *
    by_cases hm : q.more > 0
    · have e : adv mask q = { q with j := q.j + 1, more := q.more - 1 } := by unfold adv; rw [if_pos hm]
      rw [e]
      exact ⟨by show q.j + 1 + (q.more - 1) = runEnd mask q.i; lia, ih.2.1, by show q.j + 1 ≤ mask; lia⟩
    · have e : adv mask q = { q with j := (q.i * 5 + 1 + q.perturb / 32) % (mask + 1), more := runEnd mask ((q.i * 5 + 1 + q.perturb / 32) % (mask + 1)) - (q.i * 5 + 1 + q.perturb / 32) % (mask + 1), i := (q.i * 5 + 1 + q.perturb / 32) % (mask + 1), perturb := q.perturb / 32 } := by unfold adv leap; rw [if_neg hm]
      rw [e]
      dsimp only
      have h1 : (q.i * 5 + 1 + q.perturb / 32) % (mask + 1) ≤ mask := Nat.le_of_lt_succ (Nat.mod_lt _ (Nat.succ_pos _))
      have h3 := runEnd_le h1
      generalize (q.i * 5 + 1 + q.perturb / 32) % (mask + 1) = r at *
      exact ⟨Nat.add_sub_cancel' h3.2, h1, h1⟩

/-! the table laid anew -/
noncomputable def own (o : Array (Option Nat)) (j : Nat) : Option Nat := o.getD j none
noncomputable def occ (o : Array (Option Nat)) (j : Nat) : Prop := (own o j).isSome = true
theorem getD_some0 {o : Array (Option Nat)} {j : Nat} (h : j < o.size) : o.getD j (some 0) = own o j := by
  unfold own; simp [Array.getD, h]
theorem find_range {f : Nat → Bool} {n k : Nat} (h : (List.range n).find? f = some k) : k < n ∧ f k = true ∧ ∀ i, i < k → f i = false := by
  have h1 := List.find?_some h
  have h2 := List.mem_of_find?_eq_some h
  refine ⟨List.mem_range.mp h2, h1, fun i hi => ?_⟩
  rw [List.find?_range_eq_some] at h
  have := h.2.2 i hi
  simpa using this
theorem find_none {f : Nat → Bool} {n : Nat} (h : (List.range n).find? f = none) : ∀ i, i < n → f i = false := by
  rw [List.find?_eq_none] at h
  intro i hi
  have := h i (List.mem_range.mpr hi)
  simpa using this

theorem free_spec {mask : Nat} {h : Int} {o : Array (Option Nat)} (hsz : o.size = mask + 1) {ℓs : Nat} (hfree : ¬ occ o (lp mask h ℓs).1) :
    ∀ fuel ℓ n, ℓ ≤ ℓs → ℓs - ℓ < fuel → pth mask h n = lvl mask (lp mask h ℓ) → (∀ m, m < n → occ o (pth mask h m).j) →
    ∃ N, layClean.free mask o fuel (lp mask h ℓ).1 (lp mask h ℓ).2 = some (pth mask h N).j ∧ ¬ occ o (pth mask h N).j ∧ ∀ m, m < N → occ o (pth mask h m).j := by
  intro fuel
  induction fuel with
  | zero => intro ℓ n _ hf; exact absurd hf (Nat.not_lt_zero _)
  | succ fuel ih =>
    intro ℓ n hℓ hf hn hocc
    have hi : (lp mask h ℓ).1 ≤ mask := Nat.le_of_lt_succ (lp_lt mask h ℓ)
    have hre := runEnd_le hi
    have hrun := run_at mask h n _ hn
    have hlen : runEnd mask (lp mask h ℓ).1 + 1 - (lp mask h ℓ).1 = runEnd mask (lp mask h ℓ).1 - (lp mask h ℓ).1 + 1 := Nat.sub_add_comm hre.2
    have hb : ∀ k, k ≤ runEnd mask (lp mask h ℓ).1 - (lp mask h ℓ).1 → (lp mask h ℓ).1 + k < o.size := fun k hk => by
      rw [hsz]
      exact Nat.lt_succ_of_le (Nat.le_trans (Nat.add_le_of_le_sub' hre.2 hk) hre.1)
    have hmn : ∀ {m k : Nat}, ¬ m < n → m < n + k → m - n < k := fun a b => Nat.sub_lt_left_of_lt_add (Nat.le_of_not_lt a) b
    have hadd : ∀ {m : Nat}, ¬ m < n → n + (m - n) = m := fun a => Nat.add_sub_cancel' (Nat.le_of_not_lt a)
    unfold layClean.free
    cases hq : (List.range (runEnd mask (lp mask h ℓ).1 + 1 - (lp mask h ℓ).1)).find? fun k => (o.getD ((lp mask h ℓ).1 + k) (some 0)).isNone with
    | some k =>
      obtain ⟨h1, h2, h3⟩ := find_range hq
      rw [hlen] at h1
      have h1' := Nat.le_of_lt_succ h1
      dsimp only
      have hjk : (pth mask h (n + k)).j = (lp mask h ℓ).1 + k := by rw [hrun k h1']
      refine ⟨n + k, by rw [hjk], ?_, fun m hm => ?_⟩
      · rw [hjk]
        rw [getD_some0 (hb k h1')] at h2
        unfold occ
        cases hc : own o ((lp mask h ℓ).1 + k) with
        | none => simp
        | some x => rw [hc] at h2; cases h2
      · by_cases q : m < n
        · exact hocc m q
        · have hmk := hmn q hm
          have hmk' := Nat.le_trans (Nat.le_of_lt hmk) h1'
          have hm' : (pth mask h m).j = (lp mask h ℓ).1 + (m - n) := by
            have := hrun (m - n) hmk'
            rw [hadd q] at this
            rw [this]
          rw [hm']
          have := h3 (m - n) hmk
          rw [getD_some0 (hb _ hmk')] at this
          unfold occ
          cases hc : own o ((lp mask h ℓ).1 + (m - n)) with
          | none => rw [hc] at this; cases this
          | some x => rfl
    | none =>
      have h3 := find_none hq
      have hne : ℓ ≠ ℓs := by
        rintro rfl
        have := h3 0 (by rw [hlen]; exact Nat.succ_pos _)
        rw [getD_some0 (hb 0 (Nat.zero_le _)), Nat.add_zero] at this
        apply hfree
        unfold occ
        cases hc : own o (lp mask h ℓ).1 with
        | none => rw [hc] at this; cases this
        | some x => rfl
      dsimp only
      have hnext : pth mask h (n + (runEnd mask (lp mask h ℓ).1 - (lp mask h ℓ).1) + 1) = lvl mask (lp mask h (ℓ + 1)) := by
        show adv mask (pth mask h _) = _
        rw [hrun _ (Nat.le_refl _)]
        unfold adv
        dsimp only
        rw [if_neg (by lia)]
        rfl
      refine ih (ℓ + 1) _ (by lia) (by lia) hnext fun m hm => ?_
      by_cases q : m < n
      · exact hocc m q
      · have hmk := hmn (k := _ + 1) q (by rw [← Nat.add_assoc]; exact hm)
        have hmk' := Nat.le_of_lt_succ hmk
        have hm' : (pth mask h m).j = (lp mask h ℓ).1 + (m - n) := by
          have := hrun (m - n) hmk'
          rw [hadd q] at this
          rw [this]
        rw [hm']
        have := h3 (m - n) (by rw [hlen]; exact hmk)
        rw [getD_some0 (hb _ hmk')] at this
        unfold occ
        cases hc : own o ((lp mask h ℓ).1 + (m - n)) with
        | none => rw [hc] at this; cases this
        | some x => rfl

theorem filterMap_congr' {β : Type} {f g : Nat → Option β} : ∀ {l : List Nat}, (∀ i ∈ l, f i = g i) → l.filterMap f = l.filterMap g
  | [], _ => rfl
  | x :: l, h => by
    have ih := filterMap_congr' (l := l) fun i hi => h i (by simp [hi])
    rw [List.filterMap_cons, List.filterMap_cons, h x (by simp), ih]
/-- one more in a table written over a range -/
theorem filterMap_set {β : Type} {f f' : Nat → Option β} {b : β} {j : Nat} : ∀ (l : List Nat), l.Nodup → j ∈ l → f j = none → f' j = some b → (∀ i, i ≠ j → f' i = f i) → (l.filterMap f').Perm (b :: l.filterMap f)
  | [], _, h, _, _, _ => nomatch h
  | x :: l, hn, hj, h0, h1, hs => by
    rw [List.nodup_cons] at hn
    by_cases hx : x = j
    · subst hx
      rw [List.filterMap_cons_some h1, List.filterMap_cons_none h0]
      have : l.filterMap f' = l.filterMap f := filterMap_congr' fun i hi => hs i fun q => hn.1 (q ▸ hi)
      rw [this]
    · have hjl : j ∈ l := (List.mem_cons.mp hj).resolve_left fun q => hx q.symm
      have ih := filterMap_set l hn.2 hjl h0 h1 hs
      have hfx := hs x hx
      cases hc : f x with
      | none => rw [List.filterMap_cons_none (hfx.trans hc), List.filterMap_cons_none hc]; exact ih
      | some y =>
        rw [List.filterMap_cons_some (hfx.trans hc), List.filterMap_cons_some hc]
        exact (List.Perm.cons y ih).trans (List.Perm.swap b y _)

theorem filterMap_full {β : Type} {f : Nat → Option β} : ∀ {l : List Nat}, (∀ i ∈ l, (f i).isSome = true) → (l.filterMap f).length = l.length
  | [], _ => rfl
  | x :: l, h => by
    have ih := filterMap_full (l := l) fun i hi => h i (by simp [hi])
    have hx := h x (by simp)
    cases hc : f x with
    | none => rw [hc] at hx; cases hx
    | some y => rw [List.filterMap_cons_some hc, List.length_cons, List.length_cons, ih]

structure LInv (hs : List Int) (mask k : Nat) (o : Array (Option Nat)) : Prop where
  size : o.size = mask + 1
  perm : ((List.range (mask + 1)).filterMap (own o)).Perm (List.range k)
  reach : ∀ j k', own o j = some k' → ∃ h, hs[k']? = some h ∧ ∃ n, (pth mask h n).j = j ∧ ∀ m, m < n → occ o (pth mask h m).j

theorem LInv.step {hs : List Int} {mask k : Nat} {o : Array (Option Nat)} (ok : orbOk mask = true) (I : LInv hs mask k o) (hk : k ≤ mask) {h : Int} (hh : hs[k]? = some h) :
    ∃ j, layClean.free mask o (turns mask) (bits h % (mask + 1)) (bits h) = some j ∧ LInv hs mask (k + 1) (o.setIfInBounds j (some k)) := by
  have hex : ∃ j, j ≤ mask ∧ ¬ occ o j := by
    apply Classical.byContradiction
    intro hn
    have hall : ∀ i ∈ List.range (mask + 1), (own o i).isSome = true := fun i hi => Classical.byContradiction fun q => hn ⟨i, Nat.le_of_lt_succ (List.mem_range.mp hi), q⟩
    have h1 := filterMap_full hall
    have h2 := I.perm.length_eq
    rw [List.length_range] at h1 h2
    lia
  obtain ⟨j, hj, hno⟩ := hex
  have h13 := lp_lt mask h 13
  obtain ⟨m, hm, e⟩ := orb_all ok (a := (lp mask h 13).1) (by lia) hj
  have hℓ : (lp mask h (13 + m)).1 = j := by rw [lp_orb, e]
  obtain ⟨N, e1, e2, e3⟩ := free_spec I.size (ℓs := 13 + m) (by rw [hℓ]; exact hno) (turns mask) 0 0 (Nat.zero_le _) (by unfold turns; lia) rfl (fun m hm => absurd hm (Nat.not_lt_zero _))
  have hb := (pth_ok mask h N).2.2
  refine ⟨_, e1, ?_⟩
  have hown : ∀ i, own (o.setIfInBounds (pth mask h N).j (some k)) i = if i = (pth mask h N).j then some k else own o i := by
    intro i
    unfold own
    have hlt : (pth mask h N).j < o.size := by rw [I.size]; lia
    by_cases q : i = (pth mask h N).j
    · subst q
      rw [if_pos rfl]
      simp [Array.getD, hlt]
    · rw [if_neg q]
      by_cases r : i < o.size
      · simp [Array.getD, r, Array.getElem_setIfInBounds_ne, Ne.symm q]
      · simp [Array.getD, r]
  have hocc : ∀ i, occ o i → occ (o.setIfInBounds (pth mask h N).j (some k)) i := fun i hi => by
    unfold occ at hi ⊢
    rw [hown]
    split
    · rfl
    · exact hi
  refine ⟨by rw [Array.size_setIfInBounds]; exact I.size, ?_, fun i k' hi => ?_⟩
  · have hp := filterMap_set (f := own o) (f' := own (o.setIfInBounds (pth mask h N).j (some k))) (b := k) (j := (pth mask h N).j) (List.range (mask + 1)) List.nodup_range (List.mem_range.mpr (by lia))
      (by unfold occ at e2; cases hc : own o (pth mask h N).j with | none => rfl | some x => rw [hc] at e2; exact absurd rfl e2) (by rw [hown, if_pos rfl]) (fun i hi => by rw [hown, if_neg hi])
    refine hp.trans ((List.Perm.cons k I.perm).trans ?_)
    rw [List.range_succ]
    exact (List.perm_append_singleton k (List.range k)).symm
  · rw [hown] at hi
    split at hi
    · rename_i q
      cases hi
      exact ⟨h, hh, N, q.symm, fun m hm => hocc _ (e3 m hm)⟩
    · obtain ⟨h', a, n, b, c⟩ := I.reach i k' hi
      exact ⟨h', a, n, b, fun m hm => hocc _ (c m hm)⟩

theorem lay_fold {hs : List Int} {mask : Nat} (ok : orbOk mask = true) (hlen : hs.length ≤ mask) : ∀ (rest : List Int) (k : Nat) (o : Array (Option Nat)), hs.drop k = rest → LInv hs mask k o →
    ∃ o', (rest.foldl (fun (acc : Option (Array (Option Nat) × Nat)) h => do
      let (owner, k) ← acc
      let j ← layClean.free mask owner (turns mask) (bits h % (mask + 1)) (bits h)
      pure (owner.setIfInBounds j (some k), k + 1)) (some (o, k))) = some (o', hs.length) ∧ LInv hs mask hs.length o'
  | [], k, o, hd, I => by
    have : k = hs.length := by
      have h1 : hs.length ≤ k := List.drop_eq_nil_iff.mp hd
      have h2 := I.perm
      rcases Nat.lt_or_eq_of_le h1 with q | q
      · have hm : hs.length ∈ (List.range (mask + 1)).filterMap (own o) := h2.mem_iff.mpr (List.mem_range.mpr q)
        obtain ⟨j, _, e⟩ := List.mem_filterMap.mp hm
        obtain ⟨_, a, _⟩ := I.reach j _ e
        rw [List.getElem?_eq_none (Nat.le_refl _)] at a; cases a
      · exact q.symm
    subst this
    exact ⟨o, rfl, I⟩
  | h :: rest, k, o, hd, I => by
    have hk : k < hs.length := by
      rcases Nat.lt_or_ge k hs.length with q | q
      · exact q
      · rw [List.drop_eq_nil_iff.mpr q] at hd; cases hd
    have hd' := List.drop_eq_getElem_cons hk
    rw [hd] at hd'
    have hh : hs[k]? = some h := by rw [List.getElem?_eq_getElem hk, (List.cons.inj hd').1]
    obtain ⟨j, e, I'⟩ := I.step ok (by lia) hh
    obtain ⟨o', e', I''⟩ := lay_fold ok hlen rest (k + 1) _ ((List.cons.inj hd').2.symm) I'
    refine ⟨o', ?_, I''⟩
    rw [List.foldl_cons]
    have : (do
      let (owner, k) ← (some (o, k) : Option (Array (Option Nat) × Nat))
      let j ← layClean.free mask owner (turns mask) (bits h % (mask + 1)) (bits h)
      pure (owner.setIfInBounds j (some k), k + 1)) = some (o.setIfInBounds j (some k), k + 1) := by
      show ((layClean.free mask o (turns mask) (bits h % (mask + 1)) (bits h)).bind fun j => some (o.setIfInBounds j (some k), k + 1)) = _
      rw [e]; rfl
    rw [this]
    exact e'
theorem lay_clean {hs : List Int} {mask : Nat} (ok : orbOk mask = true) (hlen : hs.length ≤ mask) : ∃ o, layClean mask hs.toArray = some o ∧ LInv hs mask hs.length o := by
  have hown0 : ∀ j, own (Array.replicate (mask + 1) none) j = none := fun j => by
    unfold own
    by_cases r : j < mask + 1
    · simp [Array.getD, r]
    · simp [Array.getD, r]
  have I0 : LInv hs mask 0 (Array.replicate (mask + 1) none) := by
    refine ⟨by simp, ?_, fun j k' h => by rw [hown0] at h; cases h⟩
    have : (List.range (mask + 1)).filterMap (own (Array.replicate (mask + 1) none)) = [] := by
      rw [List.filterMap_eq_nil_iff]
      intro j _
      exact hown0 j
    rw [this]
    exact List.Perm.refl _
  obtain ⟨o', e, I⟩ := lay_fold ok hlen hs 0 _ rfl I0
  refine ⟨o', ?_, I⟩
  unfold layClean
  rw [List.foldl_toArray]
  rw [e]; rfl
end Mine

end
section
open PySem PySem.SetTable
namespace Mine

noncomputable def live (o : Array (Option Nat)) (mask : Nat) : List (Nat × Nat) := (List.range (mask + 1)).filterMap fun j => (own o j).map (j, ·)
theorem filterMap_fst_rising {f : Nat → Option Nat} : ∀ {l : List Nat}, l.Pairwise (· < ·) → ((l.filterMap fun j => (f j).map (j, ·)).map (·.1)).Pairwise (· < ·) ∧ ∀ x ∈ (l.filterMap fun j => (f j).map (j, ·)).map (·.1), x ∈ l
  | [], _ => ⟨List.Pairwise.nil, fun x hx => nomatch hx⟩
  | j :: l, h => by
    rw [List.pairwise_cons] at h
    obtain ⟨h1, h2⟩ := filterMap_fst_rising (f := f) h.2
    cases hc : f j with
    | none =>
      rw [List.filterMap_cons_none (by rw [hc]; rfl)]
      exact ⟨h1, fun x hx => List.mem_cons_of_mem _ (h2 x hx)⟩
    | some k =>
      rw [List.filterMap_cons_some (by rw [hc]; rfl), List.map_cons]
      refine ⟨List.pairwise_cons.mpr ⟨fun x hx => h.1 x (h2 x hx), h1⟩, fun x hx => ?_⟩
      rcases List.mem_cons.mp hx with rfl | hx
      · exact List.mem_cons_self
      · exact List.mem_cons_of_mem _ (h2 x hx)
theorem live_snd (o : Array (Option Nat)) (mask : Nat) : (live o mask).map (·.2) = (List.range (mask + 1)).filterMap (own o) := by
  unfold live
  rw [List.map_filterMap]
  apply filterMap_congr'
  intro i _
  cases own o i <;> rfl
theorem range_get {α : Type} : ∀ (zs : List α), (List.range zs.length).filterMap (zs[·]?) = zs := by
  intro zs
  induction zs with
  | nil => rfl
  | cons z zs ih =>
    rw [List.length_cons, List.range_succ_eq_map, List.filterMap_cons_some (b := z) (by simp)]
    rw [List.filterMap_map]
    congr 1
theorem perm_get {α : Type} {σ : List Nat} {zs : List α} (h : σ.Perm (List.range zs.length)) : (σ.filterMap (zs[·]?)).Perm zs := by
  have := h.filterMap (zs[·]?)
  rw [range_get] at this
  exact this
theorem get_map {α β : Type} (f : α → β) (zs : List α) (σ : List Nat) : σ.filterMap ((zs.map f)[·]?) = (σ.filterMap (zs[·]?)).map f := by
  rw [List.map_filterMap]
  apply filterMap_congr'
  intro i _
  rw [List.getElem?_map]
/-- all are there: place by place -/
theorem filterMap_all {α β : Type} (f : α → Option β) : ∀ {l : List α}, (∀ x ∈ l, (f x).isSome = true) → ∀ i : Nat, (l.filterMap f)[i]? = (l[i]?).bind f
  | [], _, i => by simp
  | x :: l, h, i => by
    have hx := h x (by simp)
    cases hc : f x with
    | none => rw [hc] at hx; cases hx
    | some y =>
      rw [List.filterMap_cons_some hc]
      cases i with
      | zero => simp [hc]
      | succ i => simpa using filterMap_all f (l := l) (fun z hz => h z (by simp [hz])) i

theorem laid_spec {P : Type} {hp : P → Int} {ps : List P} {mask : Nat} (finger moves : Nat) (led plain : Bool) (ok : orbOk mask = true) (hlen : ps.length ≤ mask) (hnd : ps.Nodup) :
    ∃ (t' : SetTable) (σ l' : List Nat), SetTable.laid mask finger moves led plain (ps.map hp).toArray = some (t', σ.toArray) ∧ Tab t' l' ∧ t'.mask = mask ∧ t'.led = led ∧ t'.plain = plain ∧ t'.moves = moves ∧ σ.Perm (List.range ps.length) ∧ TInv hp mask l' (σ.filterMap (ps[·]?)) := by
  obtain ⟨o, e, I⟩ := lay_clean (hs := ps.map hp) ok (by rw [List.length_map]; exact hlen)
  have hperm : ((live o mask).map (·.2)).Perm (List.range ps.length) := by
    rw [live_snd]
    have := I.perm
    rwa [List.length_map] at this
  have hr := filterMap_fst_rising (f := own o) (l := List.range (mask + 1)) (List.pairwise_lt_range)
  have hr1 : Rising ((live o mask).map (fun x : Nat × Nat => x.1)) := hr.1
  have hmemk : ∀ k ∈ (live o mask).map (·.2), (ps[k]?).isSome = true := fun k hk => by
    have := List.mem_range.mp (hperm.mem_iff.mp hk)
    simp [this]
  refine ⟨{ mask, place := ((live o mask).map (·.1)).toArray, dummies := #[], finger, led, moves, plain }, (live o mask).map (fun x : Nat × Nat => x.2), (live o mask).map (fun x : Nat × Nat => x.1), ?_, ⟨rfl, rfl, hr1⟩, rfl, rfl, rfl, rfl, hperm, ?_⟩
  · unfold SetTable.laid
    rw [e]; rfl
  · have hfull : (((live o mask).map (·.2)).filterMap (ps[·]?)).length = (live o mask).length := by
      have := (perm_get hperm).length_eq
      rw [this]
      have h2 := hperm.length_eq
      rw [List.length_map, List.length_range] at h2
      exact h2.symm
    have hocc : ∀ j, occ o j → j ≤ mask → j ∈ (live o mask).map (·.1) := fun j hj hm => by
      unfold occ at hj
      cases hc : own o j with
      | none => rw [hc] at hj; cases hj
      | some k =>
        refine List.mem_map.mpr ⟨(j, k), List.mem_filterMap.mpr ⟨j, List.mem_range.mpr (by lia), by rw [hc]; rfl⟩, rfl⟩
    refine ⟨by rw [List.length_map, hfull], hr.1, fun j hj => Nat.le_of_lt_succ (List.mem_range.mp (hr.2 j hj)), fun x hx => ?_, (perm_get hperm).nodup_iff.mpr hnd⟩
    obtain ⟨i, hi⟩ := List.mem_iff_getElem?.mp hx
    rw [List.getElem?_zip_eq_some] at hi
    obtain ⟨h1, h2⟩ := hi
    rw [filterMap_all _ hmemk, List.getElem?_map] at h2
    rw [List.getElem?_map] at h1
    cases hc : (live o mask)[i]? with
    | none => rw [hc] at h1; cases h1
    | some y =>
      rw [hc] at h1 h2
      have hj : y.1 = x.1 := by simpa using h1
      have hk : ps[y.2]? = some x.2 := by simpa using h2
      have hy := List.mem_of_getElem? hc
      obtain ⟨j, _, hj2⟩ := List.mem_filterMap.mp hy
      cases hc2 : own o j with
      | none => rw [hc2] at hj2; cases hj2
      | some k =>
        rw [hc2] at hj2
        have hjk : (j, k) = y := by simpa using hj2
        subst hjk
        obtain ⟨h, a, n, b, c⟩ := I.reach j k hc2
        rw [List.getElem?_map, hk] at a
        have ha : hp x.2 = h := by simpa using a
        subst ha
        exact ⟨n, b.trans hj, fun m hm => hocc _ (c m hm) (pth_ok mask _ m).2.2⟩
end Mine

end
namespace Mine

noncomputable def mixIs : Int ⊕ Str → Value → Bool
  | .inl i, v => Value.isInt i v
  | .inr x, v => Value.isStrOf x v
noncomputable def mixKind (prog : Program) (w : World) : PySem.KeyKind prog w (Int ⊕ Str) where
  is := mixIs
  hash := fun k => match k with | .inl i => hashInt i | .inr x => hashStr w x
  inj := fun v a b ha hb => by
    cases a with
    | inl i =>
      obtain ⟨t, rfl⟩ := Value.isInt_shape ha
      cases b with
      | inl j => exact congrArg Sum.inl (Value.isInt_inj (.int i t) i j ha hb)
      | inr y => simp [mixIs, Value.isStrOf] at hb
    | inr x =>
      obtain ⟨t, rfl⟩ := Value.isStrOf_shape ha
      cases b with
      | inl j => simp [mixIs, Value.isInt] at hb
      | inr y => exact congrArg Sum.inr (Value.isStrOf_inj (.str x t) x y ha hb)
  byValue := fun k v h => by
    cases k with
    | inl i => obtain ⟨t, rfl⟩ := Value.isInt_shape h; rfl
    | inr x => obtain ⟨t, rfl⟩ := Value.isStrOf_shape h; rfl
  pyHash := fun {_ _ _ k _ _} hv h => by
    cases k with
    | inl i => obtain ⟨t, rfl⟩ := Value.isInt_shape hv; exact wpAny_pyHash_int h
    | inr x => obtain ⟨t, rfl⟩ := Value.isStrOf_shape hv; exact wpAny_pyHash_str h
  eqBool := fun {_ _ _ a b _ _ _} hu hv h => by
    cases a with
    | inl i =>
      obtain ⟨t, rfl⟩ := Value.isInt_shape hu
      cases b with
      | inl j =>
        obtain ⟨u, rfl⟩ := Value.isInt_shape hv
        refine wpAny_eqBool_int ?_
        have e : decide ((Sum.inl i : Int ⊕ Str) = Sum.inl j) = decide (i = j) := by simp
        rw [e] at h
        exact h
      | inr y =>
        obtain ⟨u, rfl⟩ := Value.isStrOf_shape hv
        have e : decide ((Sum.inl i : Int ⊕ Str) = Sum.inr y) = false := by simp
        rw [e] at h
        exact SeqAt.EqAt.int_str _ _ _ _ _ _ _ _ h
    | inr x =>
      obtain ⟨t, rfl⟩ := Value.isStrOf_shape hu
      cases b with
      | inl j =>
        obtain ⟨u, rfl⟩ := Value.isInt_shape hv
        have e : decide ((Sum.inr x : Int ⊕ Str) = Sum.inl j) = false := by simp
        rw [e] at h
        exact SeqAt.EqAt.str_int _ _ _ _ _ _ _ _ h
      | inr y =>
        obtain ⟨u, rfl⟩ := Value.isStrOf_shape hv
        refine wpAny_eqBool_str ?_
        have e : decide ((Sum.inr x : Int ⊕ Str) = Sum.inr y) = decide (x = y) := by simp
        rw [e] at h
        exact h
  «strs» := fun k x t v h => by
    cases k with
    | inl i => simp [mixIs, Value.isInt] at h
    | inr y =>
      obtain ⟨u, hu⟩ : ∃ u, Value.str x t = .str y u := Value.isStrOf_shape (show Value.isStrOf y (.str x t) = true from h)
      injection hu with hx
      subst hx
      cases v <;> rfl

noncomputable def ksOf (p : Int × Str) : List (Int ⊕ Str) := [.inl p.1, .inr p.2]
theorem ksOf_inj {p q : Int × Str} : ksOf p = ksOf q ↔ p = q := by
  obtain ⟨a, b⟩ := p; obtain ⟨c, d⟩ := q
  simp [ksOf]
/-- the hash of a pair -/
noncomputable def hp (prog : Program) (w : World) (p : Int × Str) : Int := tupleKeyHash (mixKind prog w) (ksOf p)
theorem IsPair.key {prog : Program} {w : World} {h : Heap} {a : Addr} {p : Int × Str} (x : IsPair h (.ref a) p) : IsTupleKey (mixKind prog w) h (ksOf p) a := by
  obtain ⟨b, o, t, u, n, e, ho, hc, hd⟩ := x
  cases e
  refine ⟨o, _, n, ho, hc, hd, .cons ?_ (.cons ?_ .nil)⟩
  · show Value.isInt p.1 (.int p.1 t) = true
    simp [Value.isInt]
  · show Value.isStrOf p.2 (.str p.2 u) = true
    simp [Value.isStrOf]

section
variable {prog : Program} {w : World} {A : Around} {E : Value → Shared → Prop} {s : Shared}
theorem hash_pair {a : Addr} {p : Int × Str} {Q : Int → Shared → Prop} (hu : A.units < cLine) (hx : IsPair s.heap (.ref a) p) (h : ∀ tk, Q (hp prog w p) { s with toks := tk }) : wpAny (model prog w) A (pyHash (.ref a)) Q E s :=
  wpAny_pyHash_tuple (knd := mixKind prog w) hu (hx.key (prog := prog) (w := w)) (h _)
theorem eq_pair {a b : Addr} {p q : Int × Str} {Q : Bool → Shared → Prop} (hu : A.units < cLine) (hx : IsPair s.heap (.ref a) p) (hy : IsPair s.heap (.ref b) q) (h : Q (decide (p = q)) s) : wpAny (model prog w) A (eqBool (.ref a) (.ref b)) Q E s := by
  refine wpAny_eqBool_tuple (knd := mixKind prog w) hu (hx.key (prog := prog) (w := w)) (hy.key (prog := prog) (w := w)) ?_
  have e : decide (ksOf p = ksOf q) = decide (p = q) := by
    by_cases r : p = q
    · rw [decide_eq_true r, decide_eq_true (ksOf_inj.mpr r)]
    · rw [decide_eq_false r, decide_eq_false (fun z => r (ksOf_inj.mp z))]
  rw [e]; exact h
end

open PySem.SetTable in
/-- the set object over zs -/
noncomputable def setO (f : Int × Str → Int) (zs : List Z) (n : Nat) (t : SetTable) : Obj := { cls := .type "set", dict := none, data := .set (zs.map fun z => (f z.2, z.1)).toArray n t }
structure SetAt (prog : Program) (w : World) (S : Addr) (zs : List Z) (n : Nat) (t : SetTable) (l : List Nat) (mask : Nat) (h : Heap) : Prop where
  obj : h.get? S = some (setO (hp prog w) zs n t)
  tab : Tab t l
  msk : t.mask = mask
  inv : TInv (hp prog w) mask l (zs.map (·.2))
  room : zs.length * 5 < mask * 3
  ok : orbOk mask = true
  odd : mask % 2 = 1
  prs : ∀ z ∈ zs, PairX [S] h z

section
variable {prog : Program} {w : World} {A : Around} {E : Value → Shared → Prop} {s : Shared} {S : Addr} {zs : List Z} {n : Nat} {t : SetTable} {l : List Nat} {mask : Nat}
theorem SetAt.len {h : Heap} (X : SetAt prog w S zs n t l mask h) : l.length = zs.length := by rw [X.inv.len, List.length_map]
theorem setState_at {Q : Array (Int × Value) × Nat × SetTable → Shared → Prop} (X : SetAt prog w S zs n t l mask s.heap) (h : Q ((zs.map fun z => (hp prog w z.2, z.1)).toArray, n, t) s) : wpAny (model prog w) A (setState S) Q E s := by
  unfold setState
  refine wpAny_bind (wpAny_load X.obj ?_)
  dsimp only [setO]
  have e1 : t.place.size = l.length := by rw [X.tab.place, List.size_toArray]
  have e2 : t.fill = l.length := by unfold SetTable.fill; rw [X.tab.place, X.tab.dum]; simp
  have e3 := X.room
  have e4 := X.len
  have e5 := X.msk
  split
  · rename_i hc
    exfalso
    rcases Bool.or_eq_true_iff.mp hc with q | q
    · have q' := bne_iff_ne.mp q
      exact q' ((e1.trans e4).trans (by simp))
    · have q' : t.fill > t.mask := of_decide_eq_true q
      lia
  · exact wpAny_pure h
theorem get_es {β : Type} (f : Z → β) {i : Nat} {z : Z} (hi : zs[i]? = some z) : ((zs.map f).toArray)[i]? = some (f z) := by
  rw [List.getElem?_toArray, List.getElem?_map, hi]; rfl
theorem map_fst_getD {a : Int} {b : Value} : ((some (a, b)).map (fun x : Int × Value => x.1)).getD 0 = a := rfl
theorem stored_hash {i : Nat} {z : Z} (hi : zs[i]? = some z) : (((zs.map fun z => (hp prog w z.2, z.1)).toArray)[i]?.map (fun x : Int × Value => x.1)).getD 0 = hp prog w z.2 := by
  have := get_es (fun z : Z => (hp prog w z.2, z.1)) hi
  rw [this]
  exact map_fst_getD
end

section
variable {prog : Program} {w : World} {A : Around} {E : Value → Shared → Prop} {s : Shared}
theorem quiet_pair {a : Addr} {p : Int × Str} {Q : Bool → Shared → Prop} (hx : IsPair s.heap (.ref a) p) (h : Q true s) : wpAny (model prog w) A (eqIsQuiet 8 (.ref a)) Q E s :=
  wpAny_eqIsQuiet_tuple (knd := mixKind prog w) (hx.key (prog := prog) (w := w)) h
theorem cls_pair {a : Addr} {p : Int × Str} {Q : Bool → Shared → Prop} (hx : IsPair s.heap (.ref a) p) (h : Q false s) : wpAny (model prog w) A (ofAClassStatement 8 (.ref a)) Q E s := by
  obtain ⟨b, o, t, u, n, e, ho, hc, hd⟩ := hx
  cases e
  unfold ofAClassStatement
  refine wpAny_bind (wpAny_typeOf (T := "tuple") ⟨o, ho, hc⟩ ?_)
  dsimp only
  rw [if_pos (by decide : ("tuple" == "tuple") = true)]
  refine wpAny_bind (wpAny_pure ?_)
  simp only [Bool.not_true, Bool.false_eq_true, if_false]
  refine wpAny_bind (wpAny_seqItems ho hd ?_)
  dsimp only
  refine wpAny_bind ?_
  rw [← Array.forIn_toList]
  refine wpAny_forIn_list _ (fun rest r s' => r.1 = none ∧ s' = s ∧ ∀ v ∈ rest, (∃ i t, v = Value.int i t) ∨ ∃ x t, v = Value.str x t) _ ?_ ?_ _ _ ⟨rfl, rfl, ?_⟩
  · rintro v rest r s' ⟨hr, rfl, hall⟩
    rcases hall v List.mem_cons_self with ⟨i, t', rfl⟩ | ⟨y, t', rfl⟩
    · refine wpAny_bind (wpAny_pure ?_)
      simp only [Bool.false_eq_true, if_false]
      exact wpAny_pure ⟨rfl, rfl, fun u hu' => hall u (List.mem_cons_of_mem _ hu')⟩
    · refine wpAny_bind (wpAny_pure ?_)
      simp only [Bool.false_eq_true, if_false]
      exact wpAny_pure ⟨rfl, rfl, fun u hu' => hall u (List.mem_cons_of_mem _ hu')⟩
  · rintro ⟨r1, r2⟩ s' ⟨hr, rfl, _⟩
    simp only at hr
    subst hr
    exact wpAny_pure h
  · intro v hv
    rcases List.mem_cons.mp hv with rfl | hv
    · exact .inl ⟨_, _, rfl⟩
    · rw [List.mem_singleton.mp hv]; exact .inr ⟨_, _, rfl⟩
theorem seen_false {a : Addr} {p : Int × Str} {Q : Bool → Shared → Prop} {vs : List Value} (hx : IsPair s.heap (.ref a) p) (hvs : ∀ v ∈ vs, ∃ b q, v = .ref b ∧ IsPair s.heap (.ref b) q) (h : Q false s) : wpAny (model prog w) A (searchCouldBeSeen (.ref a) vs) Q E s := by
  unfold searchCouldBeSeen
  refine wpAny_bind ?_
  refine wpAny_forIn_list _ (fun rest r s' => r.1 = none ∧ s' = s ∧ ∀ v ∈ rest, ∃ b q, v = .ref b ∧ IsPair s.heap (.ref b) q) _ ?_ ?_ _ _ ⟨rfl, rfl, hvs⟩
  · rintro v rest r s' ⟨hr, rfl, hall⟩
    obtain ⟨b, q, rfl, hb⟩ := hall v List.mem_cons_self
    have hrest : ∀ v ∈ rest, ∃ b q, v = .ref b ∧ IsPair s'.heap (.ref b) q := fun u hu' => hall u (List.mem_cons_of_mem _ hu')
    dsimp only
    split
    · exact wpAny_pure ⟨rfl, rfl, hrest⟩
    · refine wpAny_bind (quiet_pair hx ?_)
      simp only [Bool.not_true, Bool.false_eq_true, if_false]
      refine wpAny_bind (quiet_pair hb ?_)
      simp only [Bool.not_true, Bool.false_eq_true, if_false]
      refine wpAny_bind (cls_pair hx ?_)
      simp only [Bool.false_eq_true, if_false]
      refine wpAny_bind (cls_pair hb ?_)
      simp only [Bool.false_eq_true, if_false]
      exact wpAny_pure ⟨rfl, rfl, hrest⟩
  · rintro ⟨r1, r2⟩ s' ⟨hr, rfl, _⟩
    simp only at hr
    subst hr
    exact wpAny_pure h
theorem byValue_pair {a : Addr} {p : Int × Str} {Q : Bool → Shared → Prop} (hx : IsPair s.heap (.ref a) p) (h : Q false s) : wpAny (model prog w) A (hashByValue 8 (.ref a)) Q E s := by
  obtain ⟨b, o, t, u, n, e, ho, hc, hd⟩ := hx
  cases e
  have hT : s.TypeIs (.ref a) "tuple" := ⟨o, ho, hc⟩
  unfold hashByValue
  refine wpAny_bind (wpAny_specialOf hT F.slot_tuple_hash.lookup ?_)
  dsimp only
  refine wpAny_bind (wpAny_seqItems ho hd ?_)
  refine wpAny_bind ?_
  dsimp only [Option.getD_some]
  rw [← Array.forIn_toList]
  show wpAny _ _ (forIn [Value.int p.1 t, Value.str p.2 u] _ _) _ _ _
  rw [List.forIn_cons]
  refine wpAny_bind (wpAny_bind (wpAny_pure ?_))
  simp only [Bool.not_true, Bool.false_eq_true, if_false]
  refine wpAny_pure ?_
  dsimp only
  rw [List.forIn_cons]
  refine wpAny_bind (wpAny_bind (wpAny_pure ?_))
  simp only [Bool.not_false, if_true]
  refine wpAny_pure ?_
  dsimp only
  exact wpAny_pure (wpAny_pure h)
end

section
variable {prog : Program} {w : World} {A : Around} {E : Value → Shared → Prop} {s : Shared} {S : Addr} {zs : List Z} {n : Nat} {t : SetTable} {l : List Nat} {mask : Nat}

theorem idx_of {X : SetAt prog w S zs n t l mask s.heap} {i j : Nat} (h : l[i]? = some j) : ∃ z, zs[i]? = some z := by
  have hlen := X.len
  have hi : i < l.length := by
    rcases Nat.lt_or_ge i l.length with q | q
    · exact q
    · rw [List.getElem?_eq_none q] at h; cases h
  exact ⟨zs[i]'(by lia), List.getElem?_eq_getElem (by lia)⟩

theorem search_at {x : Addr} {p : Int × Str} {Q : SetFound → Shared → Prop} (X : SetAt prog w S zs n t l mask s.heap) (hu : A.units < cLine) (hx : IsPair s.heap (.ref x) p) {N : Nat}
    (hN : (pth mask (hp prog w p) N).j ∉ l) (hall : ∀ m, m < N → (pth mask (hp prog w p) m).j ∈ l) (hNlt : N < 10 * SetTable.turns mask)
    (h1 : p ∈ zs.map (·.2) → Q (.there none) s) (h2 : p ∉ zs.map (·.2) → Q (.free (pth mask (hp prog w p) N).j false) s) :
    ∀ (F k : Nat) (stand : Option SetTable.Probe), k ≤ N → N - k < F → stand.getD (t.probeStart (hp prog w p)) = pth mask (hp prog w p) k →
      (∀ (m i : Nat) (z : Z), m < k → l[i]? = some (pth mask (hp prog w p) m).j → zs[i]? = some z → z.2 ≠ p) → wpAny (model prog w) A (setSearchFrom S (.ref x) (hp prog w p) true F stand) Q E s := by
  intro F
  induction F with
  | zero => intro k stand _ hf; exact absurd hf (Nat.not_lt_zero _)
  | succ F ih =>
    intro k stand hk hf hst hno
    unfold setSearchFrom
    refine wpAny_bind (setState_at X ?_)
    dsimp only
    have hgw : t.gaveWay = false := by
      unfold SetTable.gaveWay
      rw [X.msk, X.odd]; rfl
    rw [hgw]
    simp only [Bool.false_eq_true, if_false]
    rw [hst]
    unfold SetTable.probe
    rw [X.msk]
    rcases go_spec (hashAt := fun i => (((zs.map fun z => (hp prog w z.2, z.1)).toArray)[i]?.map (fun x : Int × Value => x.1)).getD 0) X.tab X.msk hN hall (10 * SetTable.turns mask) k hk (by lia) with ⟨k', i, a1, a2, a3, a4, a5, a6⟩ | ⟨b1, b2⟩
    · erw [a6]
      dsimp only
      obtain ⟨z, hz⟩ := idx_of (X := X) a3
      have hzm := List.mem_of_getElem? hz
      obtain ⟨b, ob, t1, t2, nb, eb, _, hob, hcb, hdb⟩ := X.prs z hzm
      have hbp : IsPair s.heap (.ref b) z.2 := ⟨b, ob, t1, t2, nb, rfl, hob, hcb, hdb⟩
      have hes := get_es (fun z : Z => (hp prog w z.2, z.1)) hz
      have hseen : ∀ v ∈ ((Array.filter (fun x => x.1 == hp prog w p) (List.map (fun z : Z => (hp prog w z.2, z.1)) zs).toArray).toList.map (·.2)), ∃ b q, v = .ref b ∧ IsPair s.heap (.ref b) q := fun v hv => by
        obtain ⟨y, hy, rfl⟩ := List.mem_map.mp hv
        have hy' := Array.mem_toList_iff.mp hy
        rw [Array.mem_filter] at hy'
        have hy2 := List.mem_toArray.mp hy'.1
        obtain ⟨z', hz', rfl⟩ := List.mem_map.mp hy2
        obtain ⟨b', ob', t1', t2', nb', eb', _, r⟩ := X.prs z' hz'
        exact ⟨b', z'.2, eb', b', ob', t1', t2', nb', rfl, r⟩
      cases hled : t.led
      case' false =>
        simp only [Bool.not_false, if_true]
        refine wpAny_bind (seen_false hx hseen ?_)
        simp only [Bool.false_eq_true, if_false]
      case' true =>
        simp only [Bool.not_true, Bool.false_eq_true, if_false]
      all_goals (
        rw [hes]
        dsimp only
        rw [eb]
        refine wpAny_bind (wpAny_holding (eq_pair hu hbp hx ?_))
        refine wpAny_bind (setState_at X ?_)
        dsimp only
        by_cases hzp : z.2 = p
        · rw [decide_eq_true hzp]
          simp only [Bool.and_self, if_true]
          exact wpAny_pure (h1 (hzp ▸ List.mem_map_of_mem hzm))
        · rw [decide_eq_false hzp]
          simp only [Bool.and_false, Bool.false_eq_true, if_false]
          have hsame : t.sameMemory t.moves mask = some true := by
            unfold SetTable.sameMemory
            rw [if_pos (by simp)]
          rw [hsame]
          dsimp only
          rw [if_pos rfl, slot_live X.tab a3]
          dsimp only
          rw [hes]
          dsimp only
          rw [eb]
          refine wpAny_bind ?_
          have his : isSame (.ref b) (.ref b) = pure true := by unfold isSame; simp
          rw [his]
          refine wpAny_pure ?_
          simp only [if_true]
          refine wpAny_bind (wpAny_pure ?_)
          dsimp only
          refine ih (k' + 1) (some (pth mask (hp prog w p) (k' + 1))) (by lia) (by lia) rfl fun m i' z' hm hi' hz' hzp' => ?_
          by_cases q1 : m < k
          · exact hno m i' z' q1 hi' hz' hzp'
          · by_cases q2 : m < k'
            · exact a5 m i' (by lia) q2 hi' (by rw [← hzp']; exact stored_hash hz')
            · have : m = k' := by lia
              subst this
              have s1 := slot_live X.tab a3
              have s2 := slot_live X.tab hi'
              rw [s1] at s2
              cases s2
              rw [hz] at hz'
              cases hz'
              exact hzp hzp')
    · erw [b2]
      dsimp only
      refine wpAny_pure (h2 fun hmem => ?_)
      obtain ⟨i, hi⟩ := List.mem_iff_getElem?.mp hmem
      obtain ⟨k', hk', e⟩ := X.inv.found hN hi
      rw [List.getElem?_map] at hi
      cases hz : zs[i]? with
      | none => rw [hz] at hi; cases hi
      | some z =>
        rw [hz] at hi
        have hzp : z.2 = p := by simpa using hi
        by_cases q : k' < k
        · exact hno k' i z q e hz hzp
        · exact b1 k' i (by lia) hk' e (by rw [← hzp]; exact stored_hash hz)
end

section
variable {f : Int × Str → Int} {prog : Program} {w : World} {A : Around} {E : Value → Shared → Prop} {s : Shared} {S : Addr} {zs : List Z} {n : Nat} {t : SetTable} {l : List Nat} {mask : Nat}

theorem storeSet_at {zs' : List Z} {t' : SetTable} {es' : Array (Int × Value)} {Q : Unit → Shared → Prop} (ho : s.heap.get? S = some (setO f zs n t)) (hes : es' = (zs'.map fun z => (f z.2, z.1)).toArray) (hsz : zs'.length ≤ 1000)
    (h : ∀ h', Heap.SameBut S s.heap h' → h'.get? S = some (setO f zs' (n + 1) t') → Q () { s with heap := h' }) : wpAny (model prog w) A (storeSet S es' t') Q E s := by
  unfold storeSet
  refine wpAny_bind (wpAny_load ho ?_)
  dsimp only [setO]
  split
  · rename_i hc
    exfalso
    rw [hes, List.size_toArray, List.length_map, sizeLine_eq] at hc
    lia
  · refine wpAny_update ho (h _ (Heap.SameBut.update ..) ?_)
    have e : Obj.putSet es' t' (setO f zs n t) = setO f zs' (n + 1) t' := by rw [hes]; rfl
    rw [Heap.get?_update_self _ ho (by rw [e]; rfl), e]

theorem relay_at {mask' wanted : Nat} {Q : Unit → Shared → Prop} (ho : s.heap.get? S = some (setO f zs n t)) (T : Tab t l) (hlen : l.length = zs.length) (hfill : zs.length ≤ t.mask) (hnd : (zs.map (·.2)).Nodup)
    (hw : SetTable.sizeAbove wanted = mask' + 1) (hm : mask' ≤ 1000) (ok : orbOk mask' = true) (hroom : zs.length ≤ mask') (hz : zs.length ≤ 1000)
    (h : ∀ h' zs' t' l', Heap.SameBut S s.heap h' → h'.get? S = some (setO f zs' (n + 1) t') → zs'.Perm zs → Tab t' l' → t'.mask = mask' → t'.led = t.led → t'.plain = t.plain → TInv f mask' l' (zs'.map (·.2)) → Q () { s with heap := h' }) :
    wpAny (model prog w) A (setRelay S wanted) Q E s := by
  unfold setRelay setState
  refine wpAny_bind (wpAny_bind (wpAny_load ho ?_))
  dsimp only [setO]
  have e1 : t.place.size = l.length := by rw [T.place, List.size_toArray]
  have e2 : t.fill = l.length := by unfold SetTable.fill; rw [T.place, T.dum]; simp
  split
  · rename_i hc
    exfalso
    rcases Bool.or_eq_true_iff.mp hc with q | q
    · have q' := bne_iff_ne.mp q
      exact q' ((e1.trans hlen).trans (by simp))
    · have q' : t.fill > t.mask := of_decide_eq_true q
      lia
  · refine wpAny_pure ?_
    dsimp only
    rw [hw]
    split
    · rename_i hc
      exfalso
      rw [sizeLine_eq] at hc
      lia
    · obtain ⟨t', σ, l', a1, a2, a3, a4, a5, a6, a7, a8⟩ := laid_spec (hp := f) (ps := zs.map (·.2)) (mask := mask') t.finger (t.movedTo mask') t.led t.plain ok (by rw [List.length_map]; exact hroom) hnd
      have hrel : t.relaid ((zs.map fun z => (f z.2, z.1)).toArray.map (·.1)) wanted = some (t', σ.toArray) := by
        unfold SetTable.relaid
        rw [hw, Nat.add_sub_cancel, ← a1]
        congr 1
        simp [List.map_map, Function.comp_def]
      rw [hrel]
      rw [List.length_map] at a7
      have hperm := perm_get (zs := zs) a7
      refine wpAny_bind ?_
      show wpAny _ _ (if ((σ.toArray.filterMap fun i => (zs.map fun z => (f z.2, z.1)).toArray[i]?).size != (zs.map fun z => (f z.2, z.1)).toArray.size) = true then _ else pure ((σ.toArray.filterMap fun i => (zs.map fun z => (f z.2, z.1)).toArray[i]?), t')) _ _ _
      have hes : (σ.toArray.filterMap fun i => (zs.map fun z => (f z.2, z.1)).toArray[i]?) = ((σ.filterMap (zs[·]?)).map fun z => (f z.2, z.1)).toArray := by
        rw [← get_map]
        simp
      rw [hes]
      rw [if_neg (by simp [hperm.length_eq])]
      refine wpAny_pure ?_
      dsimp only
      refine storeSet_at ho rfl (by rw [hperm.length_eq]; exact hz) fun h' hs hob => ?_
      refine h h' _ t' l' hs hob hperm a2 a3 a4 a5 ?_
      rw [get_map] at a8
      exact a8
end

section
variable {prog : Program} {w : World} {A : Around} {E : Value → Shared → Prop} {s : Shared} {S : Addr} {zs : List Z} {n : Nat} {t : SetTable} {l : List Nat} {mask : Nat}

theorem PairX.sameBut {h h' : Heap} {z : Z} (x : PairX [S] h z) (hs : Heap.SameBut S h h') : PairX [S] h' z := x.stab fun b o hb e => (hs.2 b fun q => hb (by simp [q])).trans e

theorem add_at {x : Addr} {p : Int × Str} {Q : Bool → Shared → Prop} (X : SetAt prog w S zs n t l mask s.heap) (m3 : mask = 7 ∨ mask = 31 ∨ mask = 127) (hu : A.units < cLine) (hx : PairX [S] s.heap (.ref x, p)) (hlen : zs.length + 1 < 77)
    (hin : p ∈ zs.map (·.2) → ∀ tk, Q false { s with toks := tk })
    (hnew : p ∉ zs.map (·.2) → ∀ h' tk n' zs' t' l' mask', Heap.SameBut S s.heap h' → SetAt prog w S zs' n' t' l' mask' h' → (mask' = 7 ∨ mask' = 31 ∨ mask' = 127) → zs'.Perm ((.ref x, p) :: zs) → t'.led = t.led → t'.plain = false → Q true { s with heap := h', toks := tk }) :
    wpAny (model prog w) A (setAdd S (.ref x)) Q E s := by
  have hxp : IsPair s.heap (.ref x) p := hx.pair
  unfold setAdd
  refine wpAny_holding (wpAny_bind (hash_pair hu hxp fun tk => ?_))
  unfold setAddHashed
  refine wpAny_holding ?_
  have X' : SetAt prog w S zs n t l mask ({ s with toks := tk } : Shared).heap := X
  have hxp' : IsPair ({ s with toks := tk } : Shared).heap (.ref x) p := hxp
  have hinQ : p ∈ zs.map (·.2) → Q false { s with toks := tk } := fun q => hin q tk
  have hnewQ : p ∉ zs.map (·.2) → ∀ h' n' zs' t' l' mask', Heap.SameBut S s.heap h' → SetAt prog w S zs' n' t' l' mask' h' → (mask' = 7 ∨ mask' = 31 ∨ mask' = 127) → zs'.Perm ((.ref x, p) :: zs) → t'.led = t.led → t'.plain = false → Q true { s with heap := h', toks := tk } :=
    fun q h' n' zs' t' l' mask' => hnew q h' tk n' zs' t' l' mask'
  show wpAny (model prog w) A (setAddHashedIn S (.ref x) (hp prog w p) (99999 + 1)) Q E { s with toks := tk }
  unfold setAddHashedIn
  refine wpAny_bind (setState_at X' ?_)
  dsimp only
  have hbs : byScan (.ref x) (zs.map fun z => (hp prog w z.2, z.1)).toArray = false := by unfold byScan Value.scannable; rfl
  rw [hbs]
  simp only [Bool.false_eq_true, if_false]
  have hlm : l.length ≤ mask := by have := X.room; have := X.len; lia
  obtain ⟨N, hN1, hN2, hN3⟩ := first_free X.ok hlm (hp prog w p)
  have hturn : SetTable.turns mask ≤ 200 := by unfold SetTable.turns; lia
  refine wpAny_bind ?_
  unfold setSearch
  refine search_at X' hu hxp' hN2 hN3 hN1 (fun hmem => ?_) (fun hnot => ?_) 100000 0 none (Nat.zero_le _) (by lia) (by show t.probeStart _ = _; rw [start_eq, X.msk]; rfl) (fun m i z hm => absurd hm (Nat.not_lt_zero _))
  · dsimp only
    exact wpAny_pure (hinQ hmem)
  · dsimp only
    refine wpAny_bind (setState_at X' ?_)
    dsimp only
    have hjm := (pth_ok mask (hp prog w p) N).2.2
    have hins := X.inv.insert hN2 hN3 hjm hnot
    generalize hj : (pth mask (hp prog w p) N).j = j at *
    generalize hb : SetTable.below l.toArray j = b at *
    have hput : t.put j = ({ t with place := (l.take b ++ j :: l.drop b).toArray, dummies := #[] }, b) := by
      unfold SetTable.put
      rw [X.tab.place, X.tab.dum, has_nil, hb]
      dsimp only
      rw [insertAt_list, if_neg Bool.false_ne_true]
    rw [hput]
    dsimp only
    have hes : SetTable.insertAt (zs.map fun z => (hp prog w z.2, z.1)).toArray b (hp prog w p, Value.ref x) = ((zs.take b ++ (Value.ref x, p) :: zs.drop b).map fun z : Z => (hp prog w z.2, z.1)).toArray := by
      rw [insertAt_list, List.map_append, List.map_cons, List.map_take, List.map_drop]
    rw [hes]
    have hzperm := perm_insert zs b ((Value.ref x, p) : Z)
    have hzlen : (zs.take b ++ (Value.ref x, p) :: zs.drop b).length = zs.length + 1 := by rw [hzperm.length_eq]; rfl
    -- both ways the table is plain no more
    cases hpl : t.plain
    case' true =>
      rw [if_pos rfl]
      refine wpAny_bind (byValue_pair hxp' ?_)
      simp only [Bool.false_eq_true, if_false]
    case' false =>
      rw [if_neg Bool.false_ne_true]
      refine wpAny_bind (wpAny_pure ?_)
      simp only [if_true]
    all_goals (
      refine wpAny_bind (storeSet_at (s := { s with toks := tk }) X.obj rfl (by rw [hzlen]; lia) fun h1 hs1 ho1 => ?_)
      have hT1 : Tab { mask := t.mask, place := (l.take b ++ j :: l.drop b).toArray, dummies := #[], finger := t.finger, led := t.led, moves := t.moves, plain := false } (l.take b ++ j :: l.drop b) := ⟨rfl, rfl, hins.rise⟩
      have hmap : (zs.take b ++ (Value.ref x, p) :: zs.drop b).map (fun z : Z => z.2) = (zs.map (·.2)).take b ++ p :: (zs.map (·.2)).drop b := by rw [List.map_append, List.map_cons, List.map_take, List.map_drop]
      have hl2 : (l.take b ++ j :: l.drop b).length = (zs.take b ++ (Value.ref x, p) :: zs.drop b).length := by rw [hins.len, ← hmap, List.length_map]
      have hfill : SetTable.fill { mask := t.mask, place := (l.take b ++ j :: l.drop b).toArray, dummies := #[], finger := t.finger, led := t.led, moves := t.moves, plain := false } = zs.length + 1 := by
        unfold SetTable.fill
        dsimp only
        rw [List.size_toArray, hl2, hzlen]; rfl
      have hprs : ∀ h2, Heap.SameBut S s.heap h2 → ∀ z ∈ (zs.take b ++ (Value.ref x, p) :: zs.drop b), PairX [S] h2 z := fun h2 hs z hm => by
        rcases mem_take_drop hm with rfl | hm
        · exact hx.sameBut hs
        · exact (X.prs z hm).sameBut hs
      by_cases hfull : SetTable.tooFull { mask := t.mask, place := (l.take b ++ j :: l.drop b).toArray, dummies := #[], finger := t.finger, led := t.led, moves := t.moves, plain := false } = true
      · rw [hfull]
        simp only [Bool.not_false, Bool.and_self, if_true]
        unfold SetTable.tooFull at hfull
        rw [hfill] at hfull
        simp only [decide_eq_true_eq] at hfull
        have hrm := X.room
        have hmk := X.msk
        have hcase : ∃ mask', SetTable.sizeAbove (SetTable.grown (((zs.map fun z => (hp prog w z.2, z.1)).toArray).size + 1)) = mask' + 1 ∧ (mask' = 7 ∨ mask' = 31 ∨ mask' = 127) ∧ (zs.length + 1) * 5 < mask' * 3 ∧ orbOk mask' = true ∧ mask' % 2 = 1 := by
          rw [List.size_toArray, List.length_map]
          rcases m3 with rfl | rfl | rfl
          · have : zs.length = 4 := by lia
            rw [this]
            exact ⟨31, by decide +kernel, .inr (.inl rfl), by decide, orbOk31, rfl⟩
          · have : zs.length = 18 := by lia
            rw [this]
            exact ⟨127, by decide +kernel, .inr (.inr rfl), by decide, orbOk127, rfl⟩
          · lia
        obtain ⟨mask', c1, c2, c3, c4, c5⟩ := hcase
        refine wpAny_bind (relay_at (s := { s with heap := h1, toks := tk }) (mask' := mask') ho1 hT1 hl2 (by show _ ≤ t.mask; rw [hzlen]; lia) (by rw [hmap]; exact hins.nodup) c1 (by lia) c4 (by rw [hzlen]; lia) (by rw [hzlen]; lia) fun h2 zs' t' l' hs2 ho2 hp2 hT2 hm2 hl2' hpl2 hI2 => ?_)
        have hs12 : Heap.SameBut S s.heap h2 := hs1.trans hs2
        refine wpAny_pure (hnewQ hnot h2 _ zs' t' l' mask' hs12 ⟨ho2, hT2, hm2, hI2, by rw [hp2.length_eq, hzlen]; exact c3, c4, c5, fun z hm => hprs h2 hs12 z (hp2.mem_iff.mp hm)⟩ c2 (hp2.trans hzperm) hl2' hpl2)
      · rw [Bool.eq_false_iff.mpr hfull]
        simp only [Bool.and_false, Bool.false_eq_true, if_false]
        refine wpAny_pure (hnewQ hnot h1 (n + 1) _ _ (l.take b ++ j :: l.drop b) mask hs1 ⟨ho1, hT1, X.msk, ?_, ?_, X.ok, X.odd, hprs h1 hs1⟩ m3 hzperm rfl rfl)
        · rw [hmap]; exact hins
        · unfold SetTable.tooFull at hfull
          rw [hfill] at hfull
          have := X.msk
          simp only [decide_eq_true_eq] at hfull
          rw [hzlen]
          lia)
end


/-- the set of the first keys -/
inductive SetOfK (prog : Program) (w : World) (S : Addr) (led : Bool) (ps : List (Int × Str)) (h : Heap) : Prop
  | mk (zs : List Z) (n : Nat) (t : SetTable) (l : List Nat) (mask : Nat) (X : SetAt prog w S zs n t l mask h) (r : (mask = 7 ∨ mask = 31 ∨ mask = 127) ∧ t.led = led ∧ (zs = [] ∨ t.plain = false) ∧ ∀ p, p ∈ zs.map (·.2) ↔ p ∈ ps)
theorem SetOfK.stab {prog : Program} {w : World} {S : Addr} {led : Bool} {ps : List (Int × Str)} {h h' : Heap} (x : SetOfK prog w S led ps h) (hs : ∀ o, h.get? S = some o → h'.get? S = some o) (hp : ∀ (b : Addr) (o : Obj), o.cls = .type "tuple" → h.get? b = some o → h'.get? b = some o) : SetOfK prog w S led ps h' := by
  obtain ⟨zs, n, t, l, mask, X, r⟩ := x
  refine ⟨zs, n, t, l, mask, ⟨hs _ X.obj, X.tab, X.msk, X.inv, X.room, X.ok, X.odd, fun z hz => ?_⟩, r⟩
  obtain ⟨a, o, t1, t2, nn, e, hX, ho, hc, hd⟩ := X.prs z hz
  exact ⟨a, o, t1, t2, nn, e, hX, hp a o hc ho, hc, hd⟩

theorem upd_loop {prog : Program} {w : World} {A : Around} {S I lst : Addr} {vs : List Value} {ps : List (Int × Str)} {led : Bool} {R : Result → Shared → Prop} (hh : A.handled = none) (hu : A.units + 5 < cLine) (hne : lst ≠ I) (hSI : S ≠ I) (hSl : S ≠ lst)
    (hlen : vs.length = ps.length) (hD : ∀ qs : List (Int × Str), qs.Nodup → (∀ q ∈ qs, q ∈ ps) → qs.length < 64) :
    ∀ (k i : Nat) (s : Shared), vs.length - i = k → i ≤ vs.length → s.heap.IsListIter I lst i → s.heap.IsList lst vs.toArray → (∀ (j : Nat) v p, vs[j]? = some v → ps[j]? = some p → PairX [S] s.heap (v, p)) →
      SetOfK prog w S led (ps.take i) s.heap →
      (∀ h' tk, (∀ b o, b ≠ S → b ≠ I → s.heap.get? b = some o → h'.get? b = some o) → SetOfK prog w S led ps h' → R (.ok (.ret .none)) { s with heap := h', toks := tk }) →
      codeAny (model prog w) A (.builtin "set.update.loop" ⟨[.ref S, .ref I], []⟩) R s := by
  have W := Walks.list (prog := prog) (w := w) (A := A.in1) hh I lst hne vs.toArray
  rw [List.size_toArray] at W
  intro k
  induction k with
  | zero =>
    intro i s hk hi hst hli hpr hS hR
    have hin : i = vs.length := by lia
    subst hin
    refine codeAny_builtin F.entry_set_update_loop ?_
    rw [Around.under_plainId F.plain_set_update_loop _]
    show wpAny _ A.in1 (pyNext (.ref I) >>= _) _ _ s
    refine wpAny_bind (W.done s _ _ ⟨hst, hli⟩ fun h' tk hk' => ?_)
    show wpAny _ A.in1 (ret Value.none) _ _ _
    have keep : ∀ b o, b ≠ I → s.heap.get? b = some o → h'.get? b = some o := fun b o hb e => hk' b o (fun q => hb (List.mem_singleton.mp q)) e
    rw [hlen, List.take_length] at hS
    obtain ⟨oI, hoI, hcI, hdI⟩ := hst
    refine wpAny_pure (hR h' tk (fun b o _ hb e => keep b o hb e) (hS.stab (fun o e => keep S o hSI e) fun b o hc e => keep b o (fun q => ?_) e))
    rw [q, hoI] at e
    cases e
    rw [hcI] at hc
    exact absurd hc (by decide)
  | succ k ih =>
    intro i s hk hi hst hli hpr hS hR
    have hlt : i < vs.length := by lia
    refine codeAny_builtin F.entry_set_update_loop ?_
    rw [Around.under_plainId F.plain_set_update_loop _]
    show wpAny _ A.in1 (pyNext (.ref I) >>= _) _ _ s
    obtain ⟨oI, hoI, hcI, hdI⟩ := id hst
    refine wpAny_bind (W.item i s _ _ hlt ⟨hst, hli⟩ fun v h1 tk1 hP hst1 hk1 => ?_)
    have keep1 : ∀ b o, b ≠ I → s.heap.get? b = some o → h1.get? b = some o := fun b o hb e => hk1 b o (fun q => hb (List.mem_singleton.mp q)) e
    have tup1 : ∀ (b : Addr) (o : Obj), o.cls = .type "tuple" → s.heap.get? b = some o → h1.get? b = some o := fun b o hc e => keep1 b o (fun q => by
      rw [q, hoI] at e
      cases e
      rw [hcI] at hc
      exact absurd hc (by decide)) e
    have hv : vs[i]? = some v := by simpa using hP
    have hpi : i < ps.length := by lia
    have hp : ps[i]? = some ps[i] := List.getElem?_eq_getElem hpi
    have hS1 := hS.stab (h' := h1) (fun o e => keep1 S o hSI e) tup1
    have hpr1 : ∀ (j : Nat) v p, vs[j]? = some v → ps[j]? = some p → PairX [S] h1 (v, p) := fun j v p a b => by
      obtain ⟨a1, o, t1, t2, nn, e, hX, ho, hc, hd⟩ := hpr j v p a b
      exact ⟨a1, o, t1, t2, nn, e, hX, tup1 a1 o hc ho, hc, hd⟩
    have hx := hpr1 i v ps[i] hv hp
    obtain ⟨a1, o1, t1, t2, nn, e1, hX1, ho1, hc1, hd1⟩ := id hx
    have e1' : v = .ref a1 := e1
    subst e1'
    have htake : ps.take (i + 1) = ps.take i ++ [ps[i]] := by rw [List.take_add_one, hp]; rfl
    obtain ⟨zs, n, t, l, mask, X, m3, hled, hpl, hmem⟩ := hS1
    show wpAny _ A.in1 (holding [Value.ref a1] (setAdd S (.ref a1)) >>= _) _ _ _
    refine wpAny_bind (wpAny_holding ?_)
    have hcnt : zs.length + 1 < 77 := by
      have := hD (zs.map (·.2)) X.inv.nodup fun q hq => List.mem_of_mem_take ((hmem q).mp hq)
      rw [List.length_map] at this
      lia
    refine add_at (s := { s with heap := h1, toks := tk1 }) X m3 (by show A.units + 1 < _; lia) hx hcnt (fun hin tk => ?_) (fun hnot h2 tk n' zs' t' l' mask' hs2 X2 m32 hperm hled2 hpl2 => ?_)
    · -- already there
      show wpAny _ A.in1 (again _) _ _ _
      refine wpAny_pure ⟨plainId_quiet F.plain_set_update_loop _, ih (i + 1) _ (by lia) (by lia) hst1.1 hst1.2 hpr1 ⟨zs, n, t, l, mask, X, m3, hled, hpl, fun q => ?_⟩ fun h' tk' hk' hS' => ?_⟩
      · rw [htake, List.mem_append, List.mem_singleton, hmem q]
        constructor
        · exact .inl
        · rintro (r | rfl)
          · exact r
          · exact (hmem _).mp hin
      · exact hR h' tk' (fun b o hb1 hb2 e => hk' b o hb1 hb2 (keep1 b o hb2 e)) hS'
    · show wpAny _ A.in1 (again _) _ _ _
      have keep2 : ∀ b o, b ≠ S → h1.get? b = some o → h2.get? b = some o := fun b o hb e => (hs2.2 b hb).trans e
      have hst2 : h2.IsListIter I lst (i + 1) := hst1.1.at fun o e => keep2 I o hSI.symm e
      have hli2 : h2.IsList lst vs.toArray := hst1.2.at fun o e => keep2 lst o hSl.symm e
      refine wpAny_pure ⟨plainId_quiet F.plain_set_update_loop _, ih (i + 1) _ (by lia) (by lia) hst2 hli2 (fun j v p a b => (hpr1 j v p a b).sameBut hs2) ⟨zs', n', t', l', mask', X2, m32, hled2.trans hled, .inr hpl2, fun q => ?_⟩ fun h' tk' hk' hS' => ?_⟩
      · rw [htake, List.mem_append, List.mem_singleton, (hperm.map (·.2)).mem_iff, List.map_cons, List.mem_cons, hmem q]
        constructor
        · rintro (r | r)
          · exact .inr r
          · exact .inl r
        · rintro (r | r)
          · exact .inr r
          · exact .inl r
      · exact hR h' tk' (fun b o hb1 hb2 e => hk' b o hb1 hb2 (keep2 b o hb1 (keep1 b o hb2 e))) hS'

section
variable {prog : Program} {w : World} {A : Around} {E : Value → Shared → Prop} {s : Shared}

noncomputable abbrev ledOf (w : World) : Bool := !w.params.followText "set-order"
noncomputable abbrev emptySet (w : World) : Obj := { cls := .type "set", dict := none, data := .set #[] 0 (.fresh 0 0 (ledOf w)) }

theorem set_new1 (a : Value) {Q₁ : Value → Shared → Prop} (h : Q₁ (.ref s.heap.objs.size) { s with heap := s.heap.push (emptySet w) }) :
    codeAny (model prog w) A (.call (.builtin "set.__new__") ⟨[.type "set", a], []⟩) (wants Q₁ E) s := by
  refine codeAny_of_tree ?_
  show wpAny _ A.in1 (do checkBuiltinCall "set.__new__" ⟨[.type "set", a], []⟩; again (.builtin "set.__new__" ⟨[.type "set", a], []⟩)) _ _ s
  refine wpAny_bind (wpAny_of_eq (F.newCall_set_1 a) (wpAny_pure ⟨plainId_quiet F.plain_set_new _, codeAny_builtin F.entry_set_new ?_⟩))
  rw [Around.under_plainId F.plain_set_new _]
  unfold Builtin.«set.__new__» Builtin.Frozenset.newClass
  have hsub := sub_set_self
  obtain ⟨hp, g, d, tk, os⟩ := s
  dsimp only
  wp_walk
  refine wpAny_askSetting (wpAny_pure ?_)
  dsimp only
  simp only [newObj]
  refine wpAny_bind (wpAny_alloc (wpAny_pure ?_))
  exact wpAny_pure h

theorem set_empty {h : Heap} {S : Addr} (ho : h.get? S = some (emptySet w)) : SetOfK prog w S (ledOf w) [] h := by
  refine ⟨[], 0, .fresh 0 0 (ledOf w), [], 7, ⟨ho, ⟨rfl, rfl, List.Pairwise.nil⟩, rfl, ⟨rfl, List.Pairwise.nil, fun j hj => (nomatch hj), fun x hx => (nomatch hx), List.nodup_nil⟩, by decide, orbOk7, rfl, fun z hz => (nomatch hz)⟩, .inl rfl, rfl, .inl rfl, fun p => by simp⟩

theorem call_set {l : Addr} {vs : List Value} {e : Nat} {ps : List (Int × Str)} {Q : Value → Shared → Prop} (hh : A.handled = none) (hu : A.units + 12 < cLine) (hl : s.heap.get? l = some (lo vs e)) (hlen : vs.length = ps.length)
    (hpr : ∀ (j : Nat) v p, vs[j]? = some v → ps[j]? = some p → PairX [] s.heap (v, p)) (hD : ∀ qs : List (Int × Str), qs.Nodup → (∀ q ∈ qs, q ∈ ps) → qs.length < 64)
    (h : ∀ h' tk, (∀ b o, s.heap.get? b = some o → h'.get? b = some o) → SetOfK prog w s.heap.objs.size (ledOf w) ps h' → Q (.ref s.heap.objs.size) { s with heap := h', toks := tk }) :
    wpAny (model prog w) A (call (.type "set") [.ref l]) Q E s := by
  obtain ⟨c, tl, hmro⟩ := F.called_set.mro
  have hmade := F.called_set.made
  have hsub := F.called_set.sub
  refine wpAny_call (codeAny_of_tree ?_)
  show wpAny _ _ (callAny (.type "set") _) _ _ _
  refine wpAny_pure ⟨Code.quiet_builtin _ (by decide +kernel), codeAny_builtin F.entry_type_call ?_⟩
  rw [Around.under_plain (weight_type_call_type "set" [.ref l] []) rfl]
  have h1 := F.called_set.notType
  have h2 := F.called_set.canCreate
  have hct := F.typeCall_set_1 (.ref l)
  wp_delta
  with_reducible refine wpAny_ite_false (by kernel_rfl) ?_
  with_reducible refine wpAny_ite_false (by kernel_rfl) ?_
  with_reducible refine wpAny_bind (wpAny_of_eq hct ?_)
  with_reducible refine wpAny_bind (wpAny_of_eq hmro ?_)
  with_reducible refine wpAny_ite_false (by kernel_rfl) ?_
  with_reducible refine wpAny_bind (wpAny_of_eq hmade ?_)
  with_reducible refine wpAny_bind (wpAny_pure ?_)
  with_reducible refine wpAny_bind (wpAny_holding ?_)
  with_reducible refine wpAny_call ?_
  refine codeAny_mono (set_new1 (.ref l) (E := E) (Q₁ := fun obj s₁ => obj = .ref s.heap.objs.size ∧ s₁ = { s with heap := s.heap.push (emptySet w) }) ⟨rfl, rfl⟩) fun r s₁ hr => ?_
  cases r with
  | error e => exact hr
  | ok fl =>
    cases fl with
    | ret obj =>
      obtain ⟨rfl, rfl⟩ := hr
      have hS : (s.heap.push (emptySet w)).get? s.heap.objs.size = some (emptySet w) := Heap.get?_push_size _ rfl
      have hT : Shared.TypeIs { s with heap := s.heap.push (emptySet w) } (.ref s.heap.objs.size) "set" := ⟨_, hS, rfl⟩
      have hli := F.called_set.init.lookup
      have hbi := F.called_set.init.bind (.ref s.heap.objs.size)
      with_reducible refine wpAny_bind (wpAny_isInstance hT hsub ?_)
      with_reducible refine wpAny_ite_false (by kernel_rfl) ?_
      with_reducible refine wpAny_bind (wpAny_holding ?_)
      wp_delta
      with_reducible refine wpAny_bind (wpAny_specialOf hT hli ?_)
      with_reducible refine wpAny_holding ?_
      with_reducible refine wpAny_bind (wpAny_of_eq hbi ?_)
      with_reducible refine wpAny_bind ?_
      with_reducible refine wpAny_call ?_
      refine codeAny_mono (codeAny_call_builtin (R := wants (fun r s₂ => r = .none ∧ ∃ h' tk, s₂ = { s with heap := h', toks := tk } ∧ SetOfK prog w s.heap.objs.size (ledOf w) ps h' ∧
          (∀ b o, s.heap.get? b = some o → h'.get? b = some o)) E) F.called_set.init.plain F.entry_set_init (check_set_init_1 hT ?_)) fun r₂ s₂ hr₂ => ?_
      · have hol' : (s.heap.push (emptySet w)).get? l = some { cls := .type "list", dict := none, data := .seq vs.toArray e, slots := #[] } := Heap.get?_push_of_some _ hl
        have hsls := F.sub_list_set
        have hslf := F.sub_list_frozenset
        have hne : (Value.type "list" == Value.type "dict") = false := by decide
        have hl1 : (s.heap.push (emptySet w)).IsList l vs.toArray := ⟨_, hol', rfl, e, rfl⟩
        unfold Builtin.«set.__init__» noKeywords Builtin.Frozenset.updateFrom
        generalize hPI : pyIter = PI
        with_reducible refine wpAny_bind ?_
        with_reducible refine wpAny_ite_true (by kernel_rfl) ?_
        repeat (first
          | with_reducible refine wpAny_bind ?_
          | with_reducible refine wpAny_pure ?_
          | with_reducible refine wpAny_ite_false (by kernel_rfl) ?_
          | with_reducible refine wpAny_typeOf hT ?_
          | with_reducible refine wpAny_load' hS ?_
          | with_reducible refine wpAny_loadPart' hol' ?_
          | with_reducible refine wpAny_of_eq hsls ?_
          | with_reducible refine wpAny_of_eq hslf ?_
          | wp_delta
          | dsimp only)
        subst hPI
        refine wpAny_pyIter_list hl1 ?_
        refine wpAny_bind (wpAny_runValue ?_)
        have hlS : l < s.heap.objs.size := Heap.lt_size hl
        have hsz : (s.heap.push (emptySet w)).objs.size = s.heap.objs.size + 1 := Heap.size_push _ _
        refine upd_loop (lst := l) (vs := vs) (ps := ps) (led := ledOf w) (by simp [hh]) (by show A.units + 1 + 1 + 5 < _; lia) (by rw [hsz]; exact Nat.ne_of_lt (Nat.lt_succ_of_lt hlS)) (by rw [hsz]; exact Nat.ne_of_lt (Nat.lt_succ_self _)) (Nat.ne_of_gt hlS) hlen hD (vs.length - 0) 0 _ rfl (Nat.zero_le _)
          ⟨_, Heap.get?_push_size _ rfl, rfl, rfl⟩ (hl1.push _) (fun j v p a b => ?_) ?_ ?_
        · obtain ⟨a1, o1, t1, t2, nn, e1, _, ho1, r1⟩ := hpr j v p a b
          refine ⟨a1, o1, t1, t2, nn, e1, fun q => ?_, Heap.get?_push_of_some _ (Heap.get?_push_of_some _ ho1), r1⟩
          exact absurd (Heap.lt_size ho1) ((List.mem_singleton.mp q) ▸ Nat.lt_irrefl _)
        · exact set_empty (Heap.get?_push_of_some _ hS)
        · intro h' tk' hk' hS'
          show wpAny _ _ _ _ _ _
          refine wpAny_pure ?_
          show wpAny _ _ (ret Value.none) _ _ _
          refine wpAny_pure ⟨rfl, h', tk', rfl, hS', fun b o e => ?_⟩
          have hb := Heap.lt_size e
          exact hk' b o (Nat.ne_of_lt hb) (by rw [hsz]; exact Nat.ne_of_lt (Nat.lt_succ_of_lt hb)) (Heap.get?_push_of_some _ (Heap.get?_push_of_some _ e))
      · cases r₂ with
        | error e => exact hr₂
        | ok fl₂ =>
          cases fl₂ with
          | ret r =>
            obtain ⟨rfl, h', tk, rfl, hS', hk'⟩ := hr₂
            show wpAny _ _ (pure (some Value.none)) _ _ _
            refine wpAny_pure ?_
            dsimp only
            refine wpAny_ite_false (by kernel_rfl) ?_
            show wpAny _ _ (ret _) _ _ _
            refine wpAny_pure ?_
            show Q _ _
            exact h _ _ hk' hS'
          | _ => exact hr₂.elim
    | _ => exact hr.elim
end

theorem entry_set_iter : entryFor table "set.__iter__" = some Builtin.«frozenset.__iter__» :=
  entryFor_alias (id' := "frozenset.__iter__") (by rw [fastTable_eq_tree]; kernel_rfl) (by decide +kernel) (by decide +kernel) (by rw [fastTable_eq_tree]; kernel_rfl)
theorem slot_setiter_next : Slot "set_iterator" "__next__" "set_iterator.__next__" :=
  .of (owner := "set_iterator") (n := "__next__") (by rw [typeLookup_type, builtinLookup_eq_fast]; kernel_rfl) (by decide +kernel) (by decide +kernel) (by decide +kernel)
    (by first | exact .inl (by decide +kernel) | exact .inr (by decide +kernel)) (by rw [isSubtype_type]; kernel_rfl)
theorem entry_setiter_next : entryFor table "set_iterator.__next__" = some Builtin.«set_iterator.__next__» := entryFor_of_tree (by kernel_rfl)
theorem args_setiter_next (a : Value) : argsOk "set_iterator.__next__" ⟨[a], []⟩ := by unfold argsOk; kernel_rfl

structure SetB (f : Int × Str → Int) (S : Addr) (zs : List Z) (n : Nat) (t : SetTable) (l : List Nat) (h : Heap) : Prop where
  obj : h.get? S = some (setO f zs n t)
  tab : Tab t l
  len : l.length = zs.length
  fit : zs.length ≤ t.mask
theorem SetB.at {f : Int × Str → Int} {S : Addr} {zs : List Z} {n : Nat} {t : SetTable} {l : List Nat} {h h' : Heap} (x : SetB f S zs n t l h) (hk : ∀ o, h.get? S = some o → h'.get? S = some o) : SetB f S zs n t l h' := ⟨hk _ x.obj, x.tab, x.len, x.fit⟩

section
variable {f : Int × Str → Int} {prog : Program} {w : World} {A : Around} {E : Value → Shared → Prop} {s : Shared} {S I : Addr} {zs : List Z} {n : Nat} {t : SetTable} {l : List Nat}
theorem setState_B {Q : Array (Int × Value) × Nat × SetTable → Shared → Prop} (X : SetB f S zs n t l s.heap) (h : Q ((zs.map fun z => (f z.2, z.1)).toArray, n, t) s) : wpAny (model prog w) A (setState S) Q E s := by
  unfold setState
  refine wpAny_bind (wpAny_load X.obj ?_)
  dsimp only [setO]
  have e1 : t.place.size = l.length := by rw [X.tab.place, List.size_toArray]
  have e2 : t.fill = l.length := by unfold SetTable.fill; rw [X.tab.place, X.tab.dum]; simp
  have e3 := X.fit
  have e4 := X.len
  split
  · rename_i hc
    exfalso
    rcases Bool.or_eq_true_iff.mp hc with q | q
    · have q' := bne_iff_ne.mp q
      exact q' ((e1.trans e4).trans (by simp))
    · have q' : t.fill > t.mask := of_decide_eq_true q
      lia
  · exact wpAny_pure h
theorem byText_at {Q : Bool → Shared → Prop} (h : Q (w.params.followText "set-order") s) : wpAny (model prog w) A setsByText Q E s := by
  unfold setsByText
  exact wpAny_bind (wpAny_askSetting (wpAny_pure h))

/-- a set's iterator -/
noncomputable def ItAt (I S : Addr) (m ep : Nat) (first : Value) (i : Nat) (h : Heap) : Prop := ∃ o, h.get? I = some o ∧ o.cls = .type "set_iterator" ∧ o.data = .fields #[first, .int i 0, .ref S, .int m 0, .int ep 0]
theorem ItAt.typeIs {m ep : Nat} {first : Value} {i : Nat} (x : ItAt I S m ep first i s.heap) : s.TypeIs (.ref I) "set_iterator" := let ⟨o, ho, hc, _⟩ := x; ⟨o, ho, hc⟩
theorem ItAt.at {m ep : Nat} {first : Value} {i : Nat} {h h' : Heap} (x : ItAt I S m ep first i h) (hk : ∀ o, h.get? I = some o → h'.get? I = some o) : ItAt I S m ep first i h' := let ⟨o, ho, r⟩ := x; ⟨o, hk _ ho, r⟩

theorem stop_raise {α : Type} {Q : α → Shared → Prop} (hh : A.handled = none) (h : ∀ h' x, (∀ b o, s.heap.get? b = some o → h'.get? b = some o) → (∃ o, h'.get? x = some o ∧ o.cls = .type "StopIteration") → E (.ref x) { s with heap := h' }) :
    wpAny (model prog w) A (newExc (.type "StopIteration") [] >>= fun e => (raiseNew e : Sem α)) Q E s := by
  refine wpAny_bind ?_
  simp only [newExc, newTuple]
  refine wpAny_bind (wpAny_newObj_type ?_ (by size_fits))
  refine wpAny_bind (m := firstArgMember _ _) (wpAny_of_eq (a := Value.none) (by first | rfl | (simp only [firstArgMember]; rfl)) ?_)
  refine wpAny_newObj_type ?_ (by size_fits)
  simp only [raiseNew]
  refine wpAny_bind (wpAny_handled ?_)
  rw [hh]
  refine wpAny_bind (wpAny_pure (wpAny_throw ?_))
  exact h _ _ (fun b o e => Heap.get?_push_of_some _ (Heap.get?_push_of_some _ e)) ⟨_, Heap.get?_push_size _ rfl, rfl⟩
theorem setNext_text {slot i : Nat} {Q : Option (Value × Nat) → Shared → Prop} (X : SetB f S zs n t l s.heap) (hb : w.params.followText "set-order" = true)
    (h : Q (((pickOrder (w.params.setOrder S n) (zs.map fun z => (f z.2, z.1)).toArray)[i]?).map fun e => (e.2, slot)) s) : wpAny (model prog w) A (setNext S slot i n) Q E s := by
  unfold setNext
  refine wpAny_bind (setState_B X ?_)
  dsimp only
  refine wpAny_bind (byText_at ?_)
  rw [hb, if_pos rfl, if_neg (by simp)]
  unfold setWalk
  refine wpAny_bind (wpAny_bind (setState_B X ?_))
  dsimp only
  refine wpAny_bind (byText_at ?_)
  rw [hb, if_pos rfl]
  refine wpAny_bind (wpAny_askSetting (wpAny_pure ?_))
  exact wpAny_pure h
theorem setNext_one {slot i : Nat} {Q : Option (Value × Nat) → Shared → Prop} (X : SetB f S zs n t l s.heap) (hb : w.params.followText "set-order" = false) (hled : t.led = true) (h1 : zs.length ≤ 1)
    (h : Q (match ((zs.map fun z => (f z.2, z.1)).toArray)[SetTable.below t.place slot]?, t.place[SetTable.below t.place slot]? with | some (_, x), some j => some (x, j + 1) | _, _ => none) s) : wpAny (model prog w) A (setNext S slot i n) Q E s := by
  unfold setNext
  refine wpAny_bind (setState_B X ?_)
  dsimp only
  refine wpAny_bind (byText_at ?_)
  rw [hb, if_neg Bool.false_ne_true]
  show wpAny _ _ (if (!t.plain && decide ((zs.map fun z => (f z.2, z.1)).toArray.size > 1)) = true then _ else _) _ _ _
  rw [if_neg (by simp; lia)]
  show wpAny _ _ ((if (!t.led && !(zs.map fun z => (f z.2, z.1)).toArray.isEmpty) = true then unsupported "set:maker-not-led" else pure ()) >>= _) _ _ _
  rw [hled, if_neg (by simp)]
  refine wpAny_bind (wpAny_pure ?_)
  exact wpAny_pure h
theorem setNextDrawn_at {i : Nat} {z : Z} {Q : Value → Shared → Prop} (X : SetB f S zs n t l s.heap) (hz : zs[i]? = some z) (h : Q z.1 s) : wpAny (model prog w) A (setNextDrawn S i n) Q E s := by
  unfold setNextDrawn
  refine wpAny_bind (setState_B X ?_)
  dsimp only
  rw [if_neg (by simp), get_es _ hz]
  exact wpAny_pure h
end

section
variable {f : Int × Str → Int} {prog : Program} {w : World} {A : Around} {E : Value → Shared → Prop} {s : Shared} {S I : Addr} {zs : List Z} {n : Nat} {t : SetTable} {l : List Nat}

theorem itObj {h : Heap} {o : Obj} {g : Array Value → Array Value} {a b c d e a' b' c' d' e' : Value} (ho : h.get? I = some o) (hc : o.cls = .type "set_iterator") (hd : o.data = .fields #[a, b, c, d, e]) (hg : g #[a, b, c, d, e] = #[a', b', c', d', e']) :
    ∃ o', (h.update I (Obj.mapFields g)).get? I = some o' ∧ o'.cls = .type "set_iterator" ∧ o'.data = .fields #[a', b', c', d', e'] :=
  ⟨_, Heap.get?_update_self _ ho (Obj.isFreed_of_fields (Obj.data_mapFields hd _)), (Obj.cls_mapFields ..).trans hc, by rw [Obj.data_mapFields hd, hg]⟩

/-- the way of an int: what setNext gives -/
theorem next_int {slot i : Nat} {r : Option (Value × Nat)} {Q : Option Value → Shared → Prop} (hh : A.handled = none) (it : ItAt I S zs.length n (.int slot 0) i s.heap) (X : SetB f S zs n t l s.heap)
    (hn : ∀ (A' : Around) (E' : Value → Shared → Prop) (Q' : Option (Value × Nat) → Shared → Prop), Q' r s → wpAny (model prog w) A' (setNext S slot i n) Q' E' s)
    (h1 : ∀ x j h', r = some (x, j) → Heap.SameBut I s.heap h' → ItAt I S zs.length n (.int j 0) (i + 1) h' → Q (some x) { s with heap := h' })
    (h2 : ∀ h', r = none → (∀ b o, b ≠ I → s.heap.get? b = some o → h'.get? b = some o) → Q none { s with heap := h' }) : wpAny (model prog w) A (pyNext (.ref I)) Q E s := by
  obtain ⟨o, ho, hc, hd⟩ := id it
  unfold pyNext
  refine wpAny_bind (wpAny_attempt (wpAny_callSpecial?_slot (name := Str.ofString "__next__") it.typeIs slot_setiter_next
    (wpAny_call_entry slot_setiter_next it.typeIs entry_setiter_next ?_ (args_setiter_next _))))
  show wpAny _ _ (fieldsOf (.ref I) >>= _) _ _ s
  refine wpAny_bind (wpAny_fieldsOf ho hd ?_)
  try dsimp only
  refine wpAny_bind (wpAny_bind (setState_B X ?_))
  refine wpAny_pure ?_
  rw [if_neg (by simp)]
  try dsimp only
  refine wpAny_bind (hn _ _ _ ?_)
  cases r with
  | none =>
    try dsimp only
    refine wpAny_bind (wpAny_setField ho hd (by simp) ?_)
    refine stop_raise (A := A.in1) hh fun h' x hk hx => ?_
    refine wpAny_bind (wpAny_isInstance (T := "StopIteration") (b := true) hx isSubtype_stop ?_)
    exact wpAny_pure (h2 h' rfl fun b o hb e => hk b o ((Heap.get?_update_ne _ _ _ _ hb).trans e))
  | some xj =>
    obtain ⟨x, j⟩ := xj
    try dsimp only
    refine wpAny_bind (wpAny_setField ho hd (by simp) ?_)
    obtain ⟨o1, ho1, hc1, hd1⟩ := itObj (g := fun vs => vs.setIfInBounds 0 (rawInt j)) ho hc hd (by rfl)
    refine wpAny_bind (wpAny_setField ho1 hd1 (by simp) ?_)
    obtain ⟨o2, ho2, hc2, hd2⟩ := itObj (g := fun vs => vs.setIfInBounds 1 (rawInt ((i : Int) + 1))) ho1 hc1 hd1 (by rfl)
    exact wpAny_pure ⟨x, rfl, wpAny_pure (h1 x j _ rfl ((Heap.SameBut.update ..).trans (Heap.SameBut.update ..)) ⟨o2, ho2, hc2, hd2⟩)⟩
/-- the way of the drawn places -/
theorem next_ref {T i : Nat} {places : List Nat} {ot : Obj} {et : Nat} {Q : Option Value → Shared → Prop} (hh : A.handled = none) (it : ItAt I S zs.length n (.ref T) i s.heap) (X : SetB f S zs n t l s.heap)
    (hT : s.heap.get? T = some ot) (hTd : ot.data = .seq (places.map fun (k : Nat) => rawInt k).toArray et)
    (h1 : ∀ k z h', places[i]? = some k → zs[k]? = some z → Heap.SameBut I s.heap h' → ItAt I S zs.length n (.ref T) (i + 1) h' → Q (some z.1) { s with heap := h' }) (hk : ∀ k, places[i]? = some k → ∃ z, zs[k]? = some z)
    (h2 : ∀ h', places[i]? = none → (∀ b o, b ≠ I → s.heap.get? b = some o → h'.get? b = some o) → Q none { s with heap := h' }) : wpAny (model prog w) A (pyNext (.ref I)) Q E s := by
  obtain ⟨o, ho, hc, hd⟩ := id it
  unfold pyNext
  refine wpAny_bind (wpAny_attempt (wpAny_callSpecial?_slot (name := Str.ofString "__next__") it.typeIs slot_setiter_next
    (wpAny_call_entry slot_setiter_next it.typeIs entry_setiter_next ?_ (args_setiter_next _))))
  show wpAny _ _ (fieldsOf (.ref I) >>= _) _ _ s
  refine wpAny_bind (wpAny_fieldsOf ho hd ?_)
  try dsimp only
  refine wpAny_bind (wpAny_bind (setState_B X ?_))
  refine wpAny_pure ?_
  rw [if_neg (by simp)]
  try dsimp only
  refine wpAny_bind (wpAny_seqItems hT hTd ?_)
  try dsimp only
  have hp : (places.map fun (k : Nat) => rawInt k).toArray[((i : Int)).toNat]? = (places[i]?).map fun (k : Nat) => rawInt k := by
    rw [Int.toNat_natCast, List.getElem?_toArray, List.getElem?_map]
  rw [hp]
  cases hq : places[i]? with
  | none =>
    dsimp only [Option.map_none]
    refine wpAny_bind (wpAny_setField ho hd (by simp) ?_)
    obtain ⟨o1, ho1, hc1, hd1⟩ := itObj (g := fun vs => vs.setIfInBounds 0 (rawInt 0)) ho hc hd (by rfl)
    refine wpAny_bind (wpAny_setField ho1 hd1 (by simp) ?_)
    refine stop_raise (A := A.in1) hh fun h' x hk' hx => ?_
    refine wpAny_bind (wpAny_isInstance (T := "StopIteration") (b := true) hx isSubtype_stop ?_)
    exact wpAny_pure (h2 h' hq fun b o hb e => hk' b o ((Heap.get?_update_ne _ _ _ _ hb).trans ((Heap.get?_update_ne _ _ _ _ hb).trans e)))
  | some k =>
    obtain ⟨z, hz⟩ := hk k hq
    dsimp only [Option.map_some, rawInt]
    refine wpAny_bind (setNextDrawn_at X (by rw [Int.toNat_natCast]; exact hz) ?_)
    refine wpAny_bind (wpAny_setField ho hd (by simp) ?_)
    obtain ⟨o1, ho1, hc1, hd1⟩ := itObj (g := fun vs => vs.setIfInBounds 1 (rawInt ((i : Int) + 1))) ho hc hd (by rfl)
    exact wpAny_pure ⟨z.1, rfl, wpAny_pure (h1 k z _ hq hz (Heap.SameBut.update ..) ⟨o1, ho1, hc1, hd1⟩)⟩
end

section
variable {prog : Program} {w : World} {A : Around}
theorem ext_loop {D I : Addr} {order : List Value} {res : Value} {R : Result → Shared → Prop} (St : Nat → Heap → Prop) (hDI : D ≠ I) (hn : order.length < 1000)
    (hst : ∀ i h h', St i h → (∀ b o, b ≠ D → h.get? b = some o → h'.get? b = some o) → St i h')
    (item : ∀ i (s : Shared) v (Q : Option Value → Shared → Prop) (E : Value → Shared → Prop), St i s.heap → order[i]? = some v → (∀ h', (∀ b o, b ≠ I → s.heap.get? b = some o → h'.get? b = some o) → St (i + 1) h' → Q (some v) { s with heap := h' }) → wpAny (model prog w) A.in1 (pyNext (.ref I)) Q E s)
    (done : ∀ (s : Shared) (Q : Option Value → Shared → Prop) (E : Value → Shared → Prop), St order.length s.heap → (∀ h', (∀ b o, b ≠ I → s.heap.get? b = some o → h'.get? b = some o) → Q none { s with heap := h' }) → wpAny (model prog w) A.in1 (pyNext (.ref I)) Q E s) :
    ∀ (k i : Nat) (s : Shared) (c : Nat), order.length - i = k → i ≤ order.length → St i s.heap → s.heap.get? D = some (lo (order.take i) c) →
    (∀ h' c', (∀ b o, b ≠ I → b ≠ D → s.heap.get? b = some o → h'.get? b = some o) → h'.get? D = some (lo order c') → R (.ok (.ret res)) { s with heap := h' }) →
    codeAny (model prog w) A (.builtin "list.extend.loop" ⟨[.ref D, .ref I, res], []⟩) R s := by
  intro k
  induction k with
  | zero =>
    intro i s c hk hi hS hD hR
    have hin : i = order.length := by lia
    subst hin
    refine codeAny_builtin F.entry_extend_loop ?_
    rw [Around.under_plainId F.plain_extend_loop _]
    show wpAny _ A.in1 (pyNext (.ref I) >>= _) _ _ s
    refine wpAny_bind (done s _ _ hS fun h' hk' => ?_)
    rw [List.take_length] at hD
    exact wpAny_pure (hR h' c (fun b o hb _ e => hk' b o hb e) (hk' D _ hDI hD))
  | succ k ih =>
    intro i s c hk hi hS hD hR
    have hlt : i < order.length := by lia
    refine codeAny_builtin F.entry_extend_loop ?_
    rw [Around.under_plainId F.plain_extend_loop _]
    show wpAny _ A.in1 (pyNext (.ref I) >>= _) _ _ s
    have hv : order[i]? = some order[i] := List.getElem?_eq_getElem hlt
    refine wpAny_bind (item i s order[i] _ _ hS hv fun h1 hk1 hS1 => ?_)
    have hD1 := hk1 D _ hDI hD
    show wpAny _ A.in1 (updateSeq D (·.push order[i]) >>= _) _ _ _
    refine wpAny_bind ?_
    have htl : (order.take i).length ≤ 1000 := by rw [List.length_take]; lia
    have hpush : Obj.mapSeq (·.push order[i]) (lo (order.take i) c) = lo (order.take (i + 1)) (c + 1) := by
      have e : order.take (i + 1) = order.take i ++ [order[i]] := by rw [List.take_add_one, hv]; rfl
      rw [e]
      exact (mapSeq_push _ _ _ _ _).trans (by rw [List.push_toArray])
    have hob : (h1.update D (Obj.mapSeq (·.push order[i]))).get? D = some (lo (order.take (i + 1)) (c + 1)) := by
      rw [Heap.get?_update_self _ hD1 (by rw [hpush]; rfl), hpush]
    refine wpAny_updateSeq (s := { s with heap := h1 }) hD1 rfl (wpAny_pure ⟨plainId_quiet F.plain_extend_loop _, ih (i + 1) _ (c + 1) (by lia) hlt (hst _ _ _ hS1 fun b o hb e => (Heap.get?_update_ne _ _ _ _ hb).trans e) hob fun h' c' hk' hD' => ?_⟩)
      (by rw [List.size_toArray, sizeLine_eq]; lia) (by rw [Array.size_push, List.size_toArray, sizeLine_eq]; lia)
    exact hR h' c' (fun b o hb1 hb2 e => hk' b o hb1 hb2 ((Heap.get?_update_ne _ _ _ _ hb2).trans (hk1 b o hb1 e))) hD'
end

theorem erase_perm {α : Type} : ∀ (xs : List α) (i : Nat) (h : i < xs.length), (xs[i] :: xs.eraseIdx i).Perm xs := by
  intro xs
  induction xs with
  | nil => intro i h; simp at h
  | cons a xs ih =>
    intro i h
    cases i with
    | zero => simp
    | succ i =>
      rw [List.getElem_cons_succ, List.eraseIdx_cons_succ]
      exact (List.Perm.swap a _ _).trans (List.Perm.cons a (ih i (by simpa using h)))
theorem pick_go {α : Type} (next : Nat → Nat) : ∀ (n k : Nat) (xs : List α) (out : Array α), xs.length = n → (pickOrder.go next n k xs out).toList.Perm (out.toList ++ xs) := by
  intro n
  induction n with
  | zero => intro k xs out h; rw [List.length_eq_zero_iff.mp h]; unfold pickOrder.go; simp
  | succ n ih =>
    intro k xs out h
    have hlt : next k % xs.length < xs.length := Nat.mod_lt _ (by lia)
    unfold pickOrder.go
    rw [List.getElem?_eq_getElem hlt]
    dsimp only
    refine (ih _ _ _ (by rw [List.length_eraseIdx, if_pos hlt]; lia)).trans ?_
    rw [Array.toList_push, List.append_assoc]
    refine List.Perm.append_left _ ?_
    exact erase_perm xs _ hlt
theorem pick_perm {α : Type} (next : Nat → Nat) (xs : Array α) : (pickOrder next xs).toList.Perm xs.toList := by
  have := pick_go next xs.size 0 xs.toList #[] (by simp)
  simpa [pickOrder] using this
section
variable {prog : Program} {w : World} {A : Around} {E : Value → Shared → Prop} {s : Shared}
theorem choose_at {n : Nat} {Q : Nat → Shared → Prop} (hn : n ≠ 0) (h : ∀ i, i < n → Q i { s with drawn := s.drawn.bump .order }) : wpAny (model prog w) A (choose .order n) Q E s :=
  fun _ _ _ => ⟨hn, h _ (Nat.mod_lt _ (by lia))⟩
theorem draw_at {α : Type} : ∀ (n : Nat) (xs : List α) (s : Shared) {Q : List α → Shared → Prop}, xs.length = n → (∀ ys d, ys.Perm xs → Q ys { s with drawn := d }) → wpAny (model prog w) A (drawOrder n xs) Q E s := by
  intro n
  induction n with
  | zero => intro xs s Q h hQ; rw [List.length_eq_zero_iff.mp h] at hQ ⊢; exact wpAny_pure (hQ [] s.drawn List.Perm.nil)
  | succ n ih =>
    intro xs s Q h hQ
    obtain ⟨x, xs', rfl⟩ : ∃ x xs', xs = x :: xs' := by cases xs with | nil => simp at h | cons x xs' => exact ⟨x, xs', rfl⟩
    generalize hxs : x :: xs' = xs at *
    have hne : xs.length ≠ 0 := by lia
    have e : drawOrder (n + 1) xs = (choose .order xs.length >>= fun i => match xs[i]? with | some x => drawOrder n (xs.eraseIdx i) >>= fun ys => pure (x :: ys) | none => unsupported "internal:drawOrder") := by
      rw [← hxs]; rfl
    rw [e]
    refine wpAny_bind (choose_at hne fun i hlt => ?_)
    rw [List.getElem?_eq_getElem hlt]
    dsimp only
    refine wpAny_bind (ih _ _ (by rw [List.length_eraseIdx, if_pos hlt]; lia) fun ys d hp => ?_)
    exact wpAny_pure (hQ _ d ((List.Perm.cons _ hp).trans (erase_perm xs i hlt)))
/-- what `iter(set)` gives: a walk in some order -/
structure SetWalk (prog : Program) (w : World) (S I : Addr) (bound : Nat) (order : List Value) (St : Nat → Heap → Prop) : Prop where
  frame : ∀ D, D ≠ S → D < bound → ∀ i h h', St i h → (∀ b o, b ≠ D → h.get? b = some o → h'.get? b = some o) → St i h'
  item : ∀ (A : Around), A.handled = none → ∀ i (s : Shared) v (Q : Option Value → Shared → Prop) (E : Value → Shared → Prop), St i s.heap → order[i]? = some v → (∀ h', (∀ b o, b ≠ I → s.heap.get? b = some o → h'.get? b = some o) → St (i + 1) h' → Q (some v) { s with heap := h' }) → wpAny (model prog w) A (pyNext (.ref I)) Q E s
  done : ∀ (A : Around), A.handled = none → ∀ (s : Shared) (Q : Option Value → Shared → Prop) (E : Value → Shared → Prop), St order.length s.heap → (∀ h', (∀ b o, b ≠ I → s.heap.get? b = some o → h'.get? b = some o) → Q none { s with heap := h' }) → wpAny (model prog w) A (pyNext (.ref I)) Q E s

variable {f : Int × Str → Int} {S I : Addr} {zs : List Z} {n : Nat} {t : SetTable} {l : List Nat} {bound : Nat}
theorem walk_text {P : Array (Int × Value)} (hP : P = pickOrder (w.params.setOrder S n) (zs.map fun z => (f z.2, z.1)).toArray) (hSI : S ≠ I) (hI : bound ≤ I) (hb : w.params.followText "set-order" = true) :
    SetWalk prog w S I bound (P.toList.map (·.2)) fun i h => ItAt I S zs.length n (.int ((0 : Nat) : Int) 0) i h ∧ SetB f S zs n t l h where
  frame D hD hlt i h h' st hk := ⟨st.1.at fun o e => hk _ o (fun q => by rw [q] at hI; exact Nat.lt_irrefl _ (Nat.lt_of_lt_of_le hlt hI)) e, st.2.at fun o e => hk _ o (Ne.symm hD) e⟩
  item A hh i s v Q E st hv hQ := by
    rw [List.getElem?_map, Array.getElem?_toList] at hv
    obtain ⟨e, he, hev⟩ := Option.map_eq_some_iff.mp hv
    refine next_int hh st.1 st.2 (fun A' E' Q' h => setNext_text st.2 hb h) (fun x j h' hr hs hit => ?_) fun h' hr _ => ?_
    all_goals rw [← hP, he] at hr
    · obtain ⟨rfl, rfl⟩ := Prod.mk.inj (Option.some.inj hr)
      rw [hev]
      exact hQ h' (fun b o hb' e' => (hs.2 b hb').trans e') ⟨hit, st.2.at fun o e' => (hs.2 S hSI).trans e'⟩
    · exact absurd hr (by simp)
  done A hh s Q E st hQ := by
    refine next_int hh st.1 st.2 (fun A' E' Q' h => setNext_text st.2 hb h) (fun x j h' hr hs hit => ?_) fun h' hr hk => hQ h' hk
    rw [← hP, List.length_map, Array.length_toList, Array.getElem?_eq_none (Nat.le_refl _)] at hr
    exact absurd hr (by simp)
theorem walk_drawn {T : Addr} {ot : Obj} {et : Nat} {places : List Nat} (hSI : S ≠ I) (hTI : T ≠ I) (hI : bound ≤ I) (hT : bound ≤ T) (hTd : ot.data = .seq (places.map fun (k : Nat) => rawInt k).toArray et) (hpl : ∀ k ∈ places, k < zs.length) :
    SetWalk prog w S I bound (places.map fun k => (zs.map (·.1))[k]?.getD .none) fun i h => ItAt I S zs.length n (.ref T) i h ∧ SetB f S zs n t l h ∧ h.get? T = some ot where
  frame D hD hlt i h h' st hk := ⟨st.1.at fun o e => hk _ o (fun q => by rw [q] at hI; exact Nat.lt_irrefl _ (Nat.lt_of_lt_of_le hlt hI)) e, st.2.1.at fun o e => hk _ o (Ne.symm hD) e, hk _ _ (fun q => by rw [q] at hT; exact Nat.lt_irrefl _ (Nat.lt_of_lt_of_le hlt hT)) st.2.2⟩
  item A hh i s v Q E st hv hQ := by
    rw [List.getElem?_map] at hv
    obtain ⟨k0, hk0, hev⟩ := Option.map_eq_some_iff.mp hv
    refine next_ref hh st.1 st.2.1 st.2.2 hTd (fun k z h' hk hz hs hit => ?_) (fun k hk => ?_) fun h' hr _ => ?_
    · rw [hk0] at hk
      obtain rfl := Option.some.inj hk
      rw [List.getElem?_map, hz] at hev
      rw [show z.1 = v from hev]
      exact hQ h' (fun b o hb' e' => (hs.2 b hb').trans e') ⟨hit, st.2.1.at fun o e' => (hs.2 S hSI).trans e', (hs.2 T hTI).trans st.2.2⟩
    · exact ⟨_, List.getElem?_eq_getElem (hpl k (List.mem_of_getElem? hk))⟩
    · rw [hk0] at hr
      exact absurd hr (by simp)
  done A hh s Q E st hQ := by
    rw [List.length_map] at st
    refine next_ref hh st.1 st.2.1 st.2.2 hTd (fun k z h' hk hz hs hit => ?_) (fun k hk => ?_) fun h' hr hk => hQ h' hk
    · rw [List.getElem?_eq_none (Nat.le_refl _)] at hk
      exact absurd hk (by simp)
    · exact ⟨_, List.getElem?_eq_getElem (hpl k (List.mem_of_getElem? hk))⟩
theorem below_one {p : Nat} : SetTable.below #[p] 0 = 0 ∧ SetTable.below #[p] (p + 1) = 1 := by
  constructor
  · simp [SetTable.below, SetTable.below.go]
  · simp [SetTable.below, SetTable.below.go]
theorem walk_one (hSI : S ≠ I) (hI : bound ≤ I) (hb : w.params.followText "set-order" = false) (hled : t.led = true) (h1 : zs.length ≤ 1) :
    SetWalk prog w S I bound (zs.map (·.1)) fun i h => (∃ slot : Nat, ItAt I S zs.length n (.int slot 0) i h ∧ slot = if i = 0 then 0 else (t.place[0]?.getD 0) + 1) ∧ SetB f S zs n t l h where
  frame D hD hlt i h h' st hk := ⟨let ⟨sl, q, e⟩ := st.1; ⟨sl, q.at fun o e => hk _ o (fun q => by rw [q] at hI; exact Nat.lt_irrefl _ (Nat.lt_of_lt_of_le hlt hI)) e, e⟩, st.2.at fun o e => hk _ o (Ne.symm hD) e⟩
  item A hh i s v Q E st hv hQ := by
    obtain ⟨⟨slot, hit0, hslot⟩, X⟩ := st
    obtain ⟨z, rfl⟩ : ∃ z, zs = [z] := by
      cases zs with
      | nil => simp at hv
      | cons z q => cases q with
        | nil => exact ⟨z, rfl⟩
        | cons _ _ => simp at h1
    have hi : i = 0 := by
      cases i with
      | zero => rfl
      | succ i => simp at hv
    subst hi
    obtain rfl := Option.some.inj (show some z.1 = some v from hv)
    obtain ⟨p, hp⟩ : ∃ p, l = [p] := by
      have := X.len
      cases l with
      | nil => simp at this
      | cons p q => cases q with
        | nil => exact ⟨p, rfl⟩
        | cons _ _ => simp at this
    have hpl : t.place = #[p] := by rw [X.tab.place, hp]
    rw [if_pos rfl] at hslot
    subst hslot
    refine next_int hh hit0 X (fun A' E' Q' h => setNext_one X hb hled h1 h) (fun x j h' hr hs hit => ?_) fun h' hr _ => ?_
    all_goals rw [hpl, below_one.1] at hr
    · obtain ⟨rfl, rfl⟩ := Prod.mk.inj (Option.some.inj (show some (z.1, p + 1) = some (x, j) from hr))
      refine hQ h' (fun b o hb' e' => (hs.2 b hb').trans e') ⟨⟨_, hit, ?_⟩, X.at fun o e' => (hs.2 S hSI).trans e'⟩
      rw [hpl]; rfl
    · exact absurd hr (by simp)
  done A hh s Q E st hQ := by
    obtain ⟨⟨slot, hit0, hslot⟩, X⟩ := st
    rw [List.length_map] at hit0 hslot
    refine next_int hh hit0 X (fun A' E' Q' h => setNext_one X hb hled h1 h) (fun x j h' hr hs hit => ?_) fun h' hr hk => hQ h' hk
    exfalso
    have hlen := X.len
    have hpl := X.tab.place
    rcases zs with _ | ⟨z, _ | ⟨_, _⟩⟩
    · exact absurd hr (by simp)
    · rcases l with _ | ⟨p, _ | ⟨_, _⟩⟩
      · simp at hlen
      · have hpl' : t.place = #[p] := hpl
        rw [hpl'] at hr hslot
        have : slot = p + 1 := hslot
        rw [this, below_one.2] at hr
        exact absurd hr (by simp)
      · simp at hlen
    · simp at h1
end

theorem range_getD (L : List Value) {k : Nat} (hk : L.length = k) : (List.range k).map (fun i => L[i]?.getD .none) = L := by
  refine List.ext_getElem? fun i => ?_
  rw [List.getElem?_map]
  by_cases h : i < k
  · rw [List.getElem?_range h]
    show some (L[i]?.getD .none) = _
    rw [List.getElem?_eq_getElem (hk ▸ h)]
    rfl
  · rw [List.getElem?_eq_none (by rw [List.length_range]; lia), List.getElem?_eq_none (by lia)]
    rfl
section
variable {prog : Program} {w : World} {A : Around} {E : Value → Shared → Prop} {s : Shared}
variable {f : Int × Str → Int} {S I : Addr} {zs : List Z} {n : Nat} {t : SetTable} {l : List Nat} {bound : Nat}
theorem drawn_at {Q : Bool → Shared → Prop} (X : SetB f S zs n t l s.heap) (h : Q (!w.params.followText "set-order" && (!t.plain && decide (zs.length > 1))) s) : wpAny (model prog w) A (setDrawn S) Q E s := by
  unfold setDrawn
  refine wpAny_bind (setState_B X ?_)
  dsimp only
  refine wpAny_bind (byText_at ?_)
  refine wpAny_pure ?_
  have e : (zs.map fun z => (f z.2, z.1)).toArray.size = zs.length := by simp
  show Q (_ && (!t.plain && decide ((zs.map fun z => (f z.2, z.1)).toArray.size > 1))) s
  rw [e]
  exact h
theorem iter_set {Q : Value → Shared → Prop} (X : SetB f S zs n t l s.heap) (hled : t.led = ledOf w) (hpl : zs = [] ∨ t.plain = false) (hz : zs.length < 1000)
    (hQ : ∀ I h' d order St, s.heap.objs.size ≤ I → (∀ b o, s.heap.get? b = some o → h'.get? b = some o) → order.Perm (zs.map (·.1)) → SetWalk prog w S I s.heap.objs.size order St → St 0 h' → Q (.ref I) { s with heap := h', drawn := d }) :
    wpAny (model prog w) A (pyIter (.ref S)) Q E s := by
  have hT : s.TypeIs (.ref S) "set" := ⟨_, X.obj, rfl⟩
  have hS : S < s.heap.objs.size := Heap.lt_size X.obj
  refine wpAny_pyIter_slot hT F.slot_set_iter (wpAny_call_entry F.slot_set_iter hT entry_set_iter ?_ (F.args_set_iter_1 _))
  unfold Builtin.«frozenset.__iter__» Builtin.Frozenset.slot0 slotArgs
  simp only [List.isEmpty_nil, Bool.not_true, Bool.false_eq_true, ↓reduceIte, bind_assoc, List.length_nil, bne_self_eq_false]
  unfold Builtin.Frozenset.addrOf Builtin.Frozenset.sizeOf setEntries
  refine wpAny_bind (wpAny_pure ?_)
  try dsimp only
  refine wpAny_bind (wpAny_pure ?_)
  refine wpAny_bind (wpAny_bind (wpAny_bind (setState_B X (wpAny_pure (wpAny_pure ?_)))))
  refine wpAny_bind (drawn_at X ?_)
  have hsz : (zs.map fun z => (f z.2, z.1)).toArray.size = zs.length := by simp
  simp only [hsz]
  have last : ∀ (A' : Around) (first : Value) (h1 : Heap) d, h1.get? S = some (setO f zs n t) → (∀ I h', I = h1.objs.size → (∀ b o, h1.get? b = some o → h'.get? b = some o) → ItAt I S zs.length n first 0 h' → SetB f S zs n t l h' → Q (.ref I) { s with heap := h', drawn := d }) →
      wpAny (model prog w) A' (setEpoch S >>= fun e => newFields "set_iterator" [first, rawInt 0, .ref S, rawInt zs.length, rawInt e] >>= fun r => ret r) (fun fin s' => ∃ r, fin = .done (.ret r) ∧ ∃ T' r', s'.TypeIs r T' ∧ typeLookup (.type T') "__next__" = pure (some r') ∧ Q r s') E { s with heap := h1, drawn := d } := by
    intro A' first h1 d hS1 hQ1
    have X1 : SetB f S zs n t l h1 := X.at fun o e => by rw [X.obj] at e; rw [← Option.some.inj e]; exact hS1
    unfold setEpoch
    refine wpAny_bind (wpAny_bind (setState_B X1 (wpAny_pure ?_)))
    unfold newFields
    refine wpAny_bind (wpAny_newObj_type (wpAny_pure ⟨_, rfl, "set_iterator", _, ⟨_, Heap.get?_push_size _ rfl, rfl⟩, slot_setiter_next.lookup, ?_⟩))
    exact hQ1 _ _ rfl (fun b o e => Heap.get?_push_of_some _ e) ⟨_, Heap.get?_push_size _ rfl, rfl, rfl⟩ (X1.at fun o e => Heap.get?_push_of_some _ e)
  have hne : ∀ I : Addr, I = s.heap.objs.size → S ≠ I := fun I hI q => by rw [q, hI] at hS; exact Nat.lt_irrefl _ hS
  cases hb : w.params.followText "set-order" with
  | true =>
    rw [Bool.not_true, Bool.false_and, if_neg Bool.false_ne_true]
    refine wpAny_bind (wpAny_pure ?_)
    refine last _ _ s.heap s.drawn X.obj fun I h' hI hk hit hX => ?_
    refine hQ I h' _ _ _ (Nat.le_of_eq hI.symm) hk ?_ (walk_text rfl (hne I hI) (Nat.le_of_eq hI.symm) hb) ⟨hit, hX⟩
    have := (pick_perm (w.params.setOrder S n) (zs.map fun z => (f z.2, z.1)).toArray).map (·.2)
    simpa [Function.comp_def] using this
  | false =>
    by_cases h1 : zs.length > 1
    · have hp : t.plain = false := hpl.resolve_left fun q => by rw [q] at h1; simp at h1
      rw [hp, decide_eq_true h1]
      refine wpAny_bind (draw_at _ _ _ List.length_range fun ys d hys => ?_)
      have hyl : ys.length = zs.length := by rw [hys.length_eq, List.length_range]
      refine wpAny_bind (wpAny_newTuple ?_ (by rw [List.length_map, hyl, sizeLine_eq]; lia))
      refine last _ _ _ d (Heap.get?_push_of_some _ X.obj) fun I h' hI hk hit hX => ?_
      have hIs : s.heap.objs.size + 1 = I := by rw [hI, Heap.size_push]
      refine hQ I h' _ _ _ (by rw [← hIs]; exact Nat.le_succ _) (fun b o e => hk b o (Heap.get?_push_of_some _ e)) ?_ (walk_drawn (T := s.heap.objs.size) (places := ys) (fun q => ?_) (fun q => ?_) (by rw [← hIs]; exact Nat.le_succ _) (Nat.le_refl _) rfl fun k hk => ?_) ⟨hit, hX, hk _ _ (Heap.get?_push_size _ rfl)⟩
      · refine (hys.map _).trans (List.Perm.of_eq ?_)
        exact range_getD (zs.map (·.1)) (by rw [List.length_map])
      · rw [q, ← hIs] at hS; exact absurd hS (Nat.not_lt.mpr (Nat.le_succ _))
      · rw [← hIs] at q; exact absurd q (Nat.ne_of_lt (Nat.lt_succ_self _))
      · exact List.mem_range.mp (hys.mem_iff.mp hk)
    · rw [decide_eq_false h1, Bool.and_false, Bool.and_false, if_neg Bool.false_ne_true]
      refine wpAny_bind (wpAny_pure ?_)
      refine last _ _ s.heap s.drawn X.obj fun I h' hI hk hit hX => ?_
      exact hQ I h' _ _ _ (Nat.le_of_eq hI.symm) hk (List.Perm.refl _) (walk_one (hne I hI) (Nat.le_of_eq hI.symm) hb (by rw [hled]; simp [ledOf, hb]) (by lia)) ⟨⟨0, hit, rfl⟩, hX⟩
end

section
variable {prog : Program} {w : World} {A : Around} {E : Value → Shared → Prop} {s : Shared}
variable {f : Int × Str → Int} {S I : Addr} {zs : List Z} {n : Nat} {t : SetTable} {l : List Nat} {bound : Nat}
theorem lenlook_set : typeLookup (.type "set") "__len__" = pure (some (.builtin "set.__len__")) := by rw [typeLookup_type, builtinLookup_eq_fast]; kernel_rfl
theorem collect_set {Q : List Value → Shared → Prop} (hh : A.handled = none) (X : SetB f S zs n t l s.heap) (hled : t.led = ledOf w) (hpl : zs = [] ∨ t.plain = false) (hz : zs.length < 1000)
    (hQ : ∀ order h' d, order.Perm (zs.map (·.1)) → (∀ b o, s.heap.get? b = some o → h'.get? b = some o) → Q order { s with heap := h', drawn := d }) :
    wpAny (model prog w) A (collect (.ref S)) Q E s := by
  have hS : S < s.heap.objs.size := Heap.lt_size X.obj
  have hSD : S ≠ s.heap.objs.size := Nat.ne_of_lt hS
  unfold collect
  refine wpAny_bind (wpAny_runValue (codeAny_builtin F.entry_proto_collect ?_))
  rw [Around.under_plainId F.plain_proto_collect _]
  show wpAny _ A.in1 (newList [] >>= fun l => again (.builtin "list.__iadd__" ⟨[l, .ref S], []⟩)) _ _ s
  refine wpAny_bind (wpAny_newObj_type ?_)
  refine wpAny_pure ⟨plainId_quiet F.plain_list_iadd _, codeAny_builtin F.entry_list_iadd ?_⟩
  rw [Around.under_plainId F.plain_list_iadd _]
  have X1 : SetB f S zs n t l (s.heap.push (lo [] 0)) := X.at fun o e => Heap.get?_push_of_some _ e
  have hT1 : ({ s with heap := s.heap.push (lo [] 0) } : Shared).TypeIs (.ref S) "set" := ⟨_, X1.obj, rfl⟩
  have hS₁ : (s.heap.push (lo [] 0)).get? s.heap.objs.size = some (lo [] 0) := Heap.get?_push_size _ rfl
  have h1 : Builtin.List.listSameRef (.ref s.heap.objs.size) (.ref S) = false := by simp [Builtin.List.listSameRef, Ne.symm hSD]
  show wpAny _ A.in1 (Builtin.List.listExtendWith (.ref s.heap.objs.size) (.ref S) (.ref s.heap.objs.size)) _ _ { s with heap := s.heap.push (lo [] 0) }
  unfold Builtin.List.listExtendWith
  refine wpAny_bind (wpAny_typeOf hT1 ?_)
  rw [if_neg (by rw [h1]; decide)]
  refine wpAny_bind (iter_set X1 hled hpl hz fun I h2 d order St hI hk2 hperm W hst => ?_)
  have hsz1 : (s.heap.push (lo [] 0)).objs.size = s.heap.objs.size + 1 := Heap.size_push ..
  have hDI : s.heap.objs.size ≠ I := fun q => by rw [hsz1, ← q] at hI; exact absurd hI (Nat.not_succ_le_self _)
  have hT2 : ({ s with heap := h2, drawn := d } : Shared).TypeIs (.ref S) "set" := ⟨_, hk2 _ _ X1.obj, rfl⟩
  refine wpAny_bind (wpAny_holding ?_)
  unfold Builtin.List.listLengthHint
  refine wpAny_bind (wpAny_specialOf hT2 lenlook_set ?_)
  (generalize hid : ("set.__len__" : String) = id0; (fail_if_success (clear hid id0)); wp_delta; rw [show splitId id0 = some ("set", "__len__") from by subst hid; decide +kernel]; subst hid)
  refine wpAny_bind (wpAny_isInstance (b := true) hT2 (by rw [isSubtype_type]; kernel_rfl) ?_)
  refine wpAny_bind (wpAny_typeOf hT2 ?_)
  refine wpAny_pure ?_
  show wpAny _ A.in1 (rule "list.extend.makes-room" >>= fun _ => Builtin.List.listTouch (.ref s.heap.objs.size) >>= fun _ =>
    again (.builtin "list.extend.loop" ⟨[.ref s.heap.objs.size, .ref I, .ref s.heap.objs.size], []⟩)) _ _ _
  refine wpAny_bind (wpAny_rule ?_)
  refine wpAny_bind ?_
  show wpAny _ A.in1 (updateSeq s.heap.objs.size (·.push .none) >>= fun _ => updateSeq s.heap.objs.size (·.pop)) _ _ _
  have hS₂ := hk2 _ _ hS₁
  refine wpAny_bind (wpAny_updateSeq (s := { s with heap := h2, drawn := d }) hS₂ rfl ?_)
  have hS₃ := Heap.get?_update_self (Obj.mapSeq (·.push Value.none)) hS₂ rfl
  refine wpAny_updateSeq hS₃ rfl ?_
  have hS₄ := Heap.get?_update_self (Obj.mapSeq (·.pop)) hS₃ rfl
  have hol : order.length = zs.length := by rw [hperm.length_eq, List.length_map]
  have hDb : s.heap.objs.size < (s.heap.push (lo [] 0)).objs.size := by rw [hsz1]; exact Nat.lt_succ_self _
  refine wpAny_pure ⟨plainId_quiet F.plain_extend_loop _, ext_loop St hDI (by lia) (fun i h h' st hk => W.frame _ (Ne.symm hSD) hDb i h h' st hk) (fun i s v Q E => W.item A.in1 hh i s v Q E) (fun s Q E => W.done A.in1 hh s Q E)
    order.length 0 _ 2 (Nat.sub_zero _) (Nat.zero_le _) (W.frame _ (Ne.symm hSD) hDb 0 h2 _ hst fun b o hb e => (Heap.get?_update_other _ _ (Ne.symm hb)).trans ((Heap.get?_update_other _ _ (Ne.symm hb)).trans e)) hS₄ fun h' c' hk' hD' => ?_⟩
  show wpAny _ A (load s.heap.objs.size >>= _) _ _ _
  refine wpAny_bind (wpAny_load hD' ?_)
  refine wpAny_pure (hQ order h' d hperm fun b o e => ?_)
  have hb : b < s.heap.objs.size := Heap.lt_size e
  have hbD : b ≠ s.heap.objs.size := Nat.ne_of_lt hb
  have hbI : b ≠ I := fun q => by rw [hsz1, ← q] at hI; exact absurd (Nat.lt_of_lt_of_le hb (Nat.le_of_succ_le hI)) (Nat.lt_irrefl _)
  exact hk' b o hbI hbD ((Heap.get?_update_other _ _ (Ne.symm hbD)).trans ((Heap.get?_update_other _ _ (Ne.symm hbD)).trans (hk2 b o (Heap.get?_push_of_some _ e))))
end

section
variable (n : Nat) (c : Nat → Nat → Bool)
noncomputable def Sat {α : Type} : KasT α → (α → Prop) → Prop
  | .ret a, Q => Q a
  | .ask i j k, Q => i < n ∧ j < n ∧ Sat (k (c i j)) Q
variable {n : Nat} {c : Nat → Nat → Bool}
theorem Sat.mono {α : Type} {Q Q' : α → Prop} : ∀ {t : KasT α}, Sat n c t Q → (∀ a, Q a → Q' a) → Sat n c t Q'
  | .ret _, h, hq => hq _ h
  | .ask _ _ _, h, hq => ⟨h.1, h.2.1, Sat.mono h.2.2 hq⟩
theorem Sat.bind {α β : Type} {f : α → KasT β} {Q : β → Prop} : ∀ {t : KasT α}, Sat n c t (fun a => Sat n c (f a) Q) → Sat n c (t.bind f) Q
  | .ret _, h => h
  | .ask _ _ _, h => ⟨h.1, h.2.1, Sat.bind h.2.2⟩
structure Ord (n : Nat) (c : Nat → Nat → Bool) : Prop where
  trans : ∀ i j k, i < n → j < n → k < n → c i j = true → c j k = true → c i k = true
  total : ∀ i j, i < n → j < n → i ≠ j → c i j = false → c j i = true
noncomputable abbrev g (p : Array Nat) (i : Nat) : Nat := p.getD i 0
noncomputable def Good (n : Nat) (p : Array Nat) : Prop := p.toList.Perm (List.range n)
theorem Good.size {p : Array Nat} (h : Good n p) : p.size = n := by have := h.length_eq; simpa using this
theorem g_eq {p : Array Nat} {i : Nat} (h : i < p.size) : g p i = p[i] := by simp [g, Array.getD, h]
theorem Good.lt {p : Array Nat} (h : Good n p) {i : Nat} (hi : i < n) : g p i < n := by
  have hs : i < p.size := by rw [h.size]; exact hi
  rw [g_eq hs]
  exact List.mem_range.mp (h.mem_iff.mp (Array.mem_toList_iff.mpr (Array.getElem_mem hs)))
theorem Good.ne {p : Array Nat} (h : Good n p) {i j : Nat} (hi : i < n) (hj : j < n) (hne : i ≠ j) : g p i ≠ g p j := by
  have hsi : i < p.size := by rw [h.size]; exact hi
  have hsj : j < p.size := by rw [h.size]; exact hj
  rw [g_eq hsi, g_eq hsj]
  intro e
  have hn : p.toList.Nodup := h.nodup_iff.mpr List.nodup_range
  exact hne ((List.getElem_inj (h₀ := by simpa using hsi) (h₁ := by simpa using hsj) hn).mp (by simpa using e))
noncomputable def Asc (c : Nat → Nat → Bool) (m : Nat) (p : Array Nat) : Prop := ∀ i j, i < j → j < m → c (g p i) (g p j) = true
noncomputable def Desc (c : Nat → Nat → Bool) (m : Nat) (p : Array Nat) : Prop := ∀ i j, i < j → j < m → c (g p j) (g p i) = true
theorem Asc.succ {p : Array Nat} {m : Nat} (O : Ord n c) (G : Good n p) (h : Asc c m p) (hm : 1 ≤ m) (hn : m < n) (hl : c (g p (m - 1)) (g p m) = true) : Asc c (m + 1) p := by
  intro i j hij hj
  by_cases hjm : j = m
  · subst hjm
    by_cases hi : i = j - 1
    · rw [hi]; exact hl
    · exact O.trans _ _ _ (G.lt (Nat.lt_trans hij hn)) (G.lt (Nat.lt_of_le_of_lt (Nat.sub_le _ _) hn)) (G.lt hn) (h i (j - 1) (Nat.lt_of_le_of_ne (Nat.le_sub_one_of_lt hij) hi) (Nat.sub_lt hm Nat.one_pos)) hl
  · exact h i j hij (Nat.lt_of_le_of_ne (Nat.le_of_lt_succ hj) hjm)
theorem Desc.succ {p : Array Nat} {m : Nat} (O : Ord n c) (G : Good n p) (h : Desc c m p) (hm : 1 ≤ m) (hn : m < n) (hl : c (g p m) (g p (m - 1)) = true) : Desc c (m + 1) p := by
  intro i j hij hj
  by_cases hjm : j = m
  · subst hjm
    by_cases hi : i = j - 1
    · rw [hi]; exact hl
    · exact O.trans _ _ _ (G.lt hn) (G.lt (Nat.lt_of_le_of_lt (Nat.sub_le _ _) hn)) (G.lt (Nat.lt_trans hij hn)) hl (h i (j - 1) (Nat.lt_of_le_of_ne (Nat.le_sub_one_of_lt hij) hi) (Nat.sub_lt hm Nat.one_pos))
  · exact h i j hij (Nat.lt_of_le_of_ne (Nat.le_of_lt_succ hj) hjm)
theorem sat_asc {p : Array Nat} (O : Ord n c) (G : Good n p) : ∀ (f a : Nat), 1 ≤ a → a + f = n → Asc c a p → Sat n c (kas_asc p f a) (fun m => a ≤ m ∧ m ≤ n ∧ Asc c m p ∧ (m < n → c (g p m) (g p (m - 1)) = true))
  | 0, a, h1, h2, h3 => ⟨Nat.le_refl _, Nat.le_of_eq h2, h3, fun h => absurd h (by rw [← h2]; exact Nat.lt_irrefl _)⟩
  | f + 1, a, h1, h2, h3 => by
    have han : a < n := by rw [← h2]; exact Nat.lt_add_of_pos_right (Nat.succ_pos f)
    have ha1 : a - 1 < n := Nat.lt_of_le_of_lt (Nat.sub_le _ _) han
    refine ⟨G.lt han, G.lt ha1, ?_⟩
    cases hc : c (g p a) (g p (a - 1)) with
    | true => exact ⟨Nat.le_refl _, Nat.le_of_lt han, h3, fun _ => hc⟩
    | false =>
      exact (sat_asc O G f (a + 1) (Nat.le_add_left 1 a) (by rw [← h2, Nat.add_assoc, Nat.add_comm 1 f]) (h3.succ O G h1 han (O.total _ _ (G.lt han) (G.lt ha1) (G.ne han ha1 (Nat.ne_of_gt (Nat.sub_lt h1 Nat.one_pos))) hc))).mono fun m q => ⟨Nat.le_of_succ_le q.1, q.2.1, q.2.2⟩
theorem sat_desc {p : Array Nat} (O : Ord n c) (G : Good n p) : ∀ (f a : Nat), 1 ≤ a → a + f = n → Desc c a p → Sat n c (kas_desc f p a 0) (fun r => r.1 = p ∧ r.2.2 = 0 ∧ a ≤ r.2.1 ∧ r.2.1 ≤ n ∧ Desc c r.2.1 p)
  | 0, a, h1, h2, h3 => ⟨rfl, rfl, Nat.le_refl _, Nat.le_of_eq h2, h3⟩
  | f + 1, a, h1, h2, h3 => by
    have han : a < n := by rw [← h2]; exact Nat.lt_add_of_pos_right (Nat.succ_pos f)
    have ha1 : a - 1 < n := Nat.lt_of_le_of_lt (Nat.sub_le _ _) han
    refine ⟨G.lt han, G.lt ha1, ?_⟩
    cases hc : c (g p a) (g p (a - 1)) with
    | true =>
      exact (sat_desc O G f (a + 1) (Nat.le_add_left 1 a) (by rw [← h2, Nat.add_assoc, Nat.add_comm 1 f]) (h3.succ O G h1 han hc)).mono fun m q => ⟨q.1, q.2.1, Nat.le_of_succ_le q.2.2.1, q.2.2.2⟩
    | false =>
      have hd := O.total _ _ (G.lt han) (G.lt ha1) (G.ne (p := p) (i := a) (j := a - 1) han ha1 (Nat.ne_of_gt (Nat.sub_lt h1 Nat.one_pos))) hc
      refine ⟨G.lt ha1, G.lt han, ?_⟩
      rw [hd]
      exact ⟨rfl, rfl, Nat.le_refl _, Nat.le_of_lt han, h3⟩
theorem good_rev {p : Array Nat} (G : Good n p) (i j : Nat) : Good n (kas_rev p i j) := by
  have := mirror_perm p i j ((j - i) / 2)
  exact (Array.perm_iff_toList_perm.mp this).trans G
theorem g_congr {p q : Array Nat} {i j : Nat} (h : p[i]? = q[j]?) : g p i = g q j := by
  simp only [g, Array.getD_eq_getD_getElem?, h]
theorem sat_tail3 {p : Array Nat} {m : Nat} (O : Ord n c) (G : Good n p) (h1 : 1 ≤ m) (hm : m ≤ n) (hD : Desc c m p) : Sat n c (kas_tail3 m n p) (fun r => 1 ≤ r.1 ∧ r.1 ≤ n ∧ Asc c r.1 r.2 ∧ Good n r.2) := by
  have hA : Asc c m (kas_rev p 0 m) := by
    intro i j hij hj
    have hs : m ≤ p.size := by rw [G.size]; exact hm
    have e1 : g (kas_rev p 0 m) i = g p (0 + m - 1 - i) := g_congr (by unfold kas_rev; rw [getElem?_mirror_all hs, if_pos ⟨Nat.zero_le _, Nat.lt_trans hij hj⟩])
    have e2 : g (kas_rev p 0 m) j = g p (0 + m - 1 - j) := g_congr (by unfold kas_rev; rw [getElem?_mirror_all hs, if_pos ⟨Nat.zero_le _, hj⟩])
    rw [e1, e2]
    exact hD _ _ (by lia) (by lia)
  refine Sat.bind ((sat_asc O (good_rev G 0 m) (n - m) m h1 (Nat.add_sub_cancel' hm) hA).mono fun q hq => ?_)
  exact ⟨Nat.le_trans h1 hq.1, hq.2.1, hq.2.2.1, good_rev G 0 m⟩
theorem sat_count {p : Array Nat} (O : Ord n c) (G : Good n p) (h1 : 1 ≤ n) : Sat n c (kas_count n p) (fun r => 1 ≤ r.1 ∧ r.1 ≤ n ∧ Asc c r.1 r.2 ∧ Good n r.2) := by
  refine Sat.bind ((sat_asc O G (n - 1) 1 (Nat.le_refl _) (Nat.add_sub_cancel' h1) (fun i j a b => absurd a (by rw [Nat.lt_one_iff.mp b]; exact Nat.not_lt_zero _))).mono fun m hm => ?_)
  obtain ⟨ha, hb, hA, hl⟩ := hm
  by_cases hmn : m = n
  · rw [if_pos (beq_iff_eq.mpr hmn)]
    exact ⟨ha, hb, hA, G⟩
  · rw [if_neg (fun q => hmn (beq_iff_eq.mp q))]
    by_cases hm1 : m > 1
    · rw [if_pos hm1]
      have hm1n : m - 1 < n := Nat.lt_of_lt_of_le (Nat.sub_lt ha Nat.one_pos) hb
      refine ⟨G.lt h1, G.lt hm1n, ?_⟩
      have := hA 0 (m - 1) (Nat.sub_pos_of_lt hm1) (Nat.sub_lt ha Nat.one_pos)
      simp only [g] at this
      rw [this]
      exact ⟨ha, hb, hA, G⟩
    · rw [if_neg hm1]
      have hm1' : m = 1 := Nat.le_antisymm (Nat.le_of_not_lt hm1) ha
      subst hm1'
      have h1n : 1 < n := Nat.lt_of_le_of_ne hb hmn
      have hl' := hl h1n
      refine Sat.bind ((sat_desc O G (n - (1 + 1)) (1 + 1) (by decide) (Nat.add_sub_cancel' h1n) (fun i j a b => ?_)).mono fun r hr => ?_)
      · have : i = 0 ∧ j = 1 := by lia
        rw [this.1, this.2]; exact hl'
      · obtain ⟨e1, e2, e3, e4, e5⟩ := hr
        rw [e2, if_neg (by lia), e1]
        exact sat_tail3 O G (by lia) e4 e5
theorem sat_place {p : Array Nat} {k : Nat} (O : Ord n c) (G : Good n p) (hk : k < n) (hA : Asc c k p) : ∀ (f l r : Nat), r - l ≤ f → l ≤ r → r ≤ k → (∀ i, i < l → c (g p i) (g p k) = true) → (∀ i, r ≤ i → i < k → c (g p k) (g p i) = true) →
    Sat n c (kas_place p k f l r) (fun m => m ≤ k ∧ (∀ i, i < m → c (g p i) (g p k) = true) ∧ (∀ i, m ≤ i → i < k → c (g p k) (g p i) = true))
  | 0, l, r, h1, h2, h3, h4, h5 => by
    have : l = r := by lia
    subst this
    exact ⟨h3, h4, h5⟩
  | f + 1, l, r, h1, h2, h3, h4, h5 => by
    unfold kas_place
    by_cases hlr : l ≥ r
    · rw [if_pos hlr]
      have : l = r := by lia
      subst this
      exact ⟨h3, h4, h5⟩
    · rw [if_neg hlr]
      have hlr' := Nat.lt_of_not_le hlr
      have hm1 : l ≤ (l + r) / 2 := by lia
      have hm2 : (l + r) / 2 < r := by lia
      clear hlr
      generalize (l + r) / 2 = mid at *
      have hmk : mid < k := Nat.lt_of_lt_of_le hm2 h3
      have hmn : mid < n := Nat.lt_trans hmk hk
      refine ⟨G.lt hk, G.lt hmn, ?_⟩
      cases hc : c (g p k) (g p mid) with
      | true =>
        refine sat_place O G hk hA f l mid (by lia) hm1 (Nat.le_of_lt hmk) h4 fun i hi hik => ?_
        by_cases he : i = mid
        · rw [he]; exact hc
        · exact O.trans _ _ _ (G.lt hk) (G.lt hmn) (G.lt (Nat.lt_trans hik hk)) hc (hA _ _ (Nat.lt_of_le_of_ne hi (Ne.symm he)) hik)
      | false =>
        have hd := O.total _ _ (G.lt hk) (G.lt hmn) (G.ne (p := p) (i := k) (j := mid) hk hmn (Nat.ne_of_gt hmk)) hc
        refine sat_place O G hk hA f (mid + 1) r (by lia) hm2 h3 (fun i hi => ?_) h5
        by_cases he : i = mid
        · rw [he]; exact hd
        · have him := Nat.lt_of_le_of_ne (Nat.le_of_lt_succ hi) he
          exact O.trans _ _ _ (G.lt (Nat.lt_trans him hmn)) (G.lt hmn) (G.lt hk) (hA _ _ him hmk) hd
theorem asc_bubble {p : Array Nat} {k l : Nat} (G : Good n p) (hk : k < n) (hA : Asc c k p) (hl : l ≤ k) (h1 : ∀ i, i < l → c (g p i) (g p k) = true) (h2 : ∀ i, l ≤ i → i < k → c (g p k) (g p i) = true) : Asc c (k + 1) (bubble p k (k - l)) := by
  have hs : k < p.size := by rw [G.size]; exact hk
  have e : ∀ i, g (bubble p k (k - l)) i = if i = l then g p k else if l < i ∧ i ≤ k then g p (i - 1) else g p i := by
    intro i
    have b := getElem?_bubble hs (k - l) (Nat.sub_le k l) i
    rw [Nat.sub_sub_self hl] at b
    by_cases q1 : i = l
    · rw [if_pos q1] at b ⊢; exact g_congr b
    · rw [if_neg q1] at b ⊢
      by_cases q2 : l < i ∧ i ≤ k
      · rw [if_pos q2] at b ⊢; exact g_congr b
      · rw [if_neg q2] at b ⊢; exact g_congr b
  intro i j hij hj
  have hjk : j ≤ k := Nat.le_of_lt_succ hj
  have hj1 : j - 1 < k := Nat.lt_of_lt_of_le (Nat.sub_lt (Nat.lt_of_le_of_lt (Nat.zero_le _) hij) Nat.one_pos) hjk
  rw [e i, e j]
  by_cases a1 : i = l
  · have hlj : l < j := a1 ▸ hij
    rw [if_pos a1, if_neg (Nat.ne_of_gt hlj), if_pos ⟨hlj, hjk⟩]
    exact h2 _ (Nat.le_sub_one_of_lt hlj) hj1
  · rw [if_neg a1]
    by_cases a2 : l < i ∧ i ≤ k
    · have hlj := Nat.lt_trans a2.1 hij
      rw [if_pos a2, if_neg (Nat.ne_of_gt hlj), if_pos ⟨hlj, hjk⟩]
      exact hA _ _ (Nat.sub_lt_sub_right (Nat.lt_of_le_of_lt (Nat.zero_le _) a2.1) hij) hj1
    · have hil : i < l := by lia
      rw [if_neg a2]
      by_cases a3 : j = l
      · rw [if_pos a3]; exact h1 _ hil
      · rw [if_neg a3]
        by_cases a4 : l < j ∧ j ≤ k
        · rw [if_pos a4]; exact hA _ _ (Nat.lt_of_lt_of_le hil (Nat.le_sub_one_of_lt a4.1)) hj1
        · rw [if_neg a4]; exact hA _ _ hij (by lia)
theorem sat_bin (O : Ord n c) : ∀ (f : Nat) (p : Array Nat) (k : Nat), k + f = n → Good n p → Asc c k p → Sat n c (kas_bin f p k) (fun q => Good n q ∧ Asc c n q)
  | 0, p, k, h, G, hA => ⟨G, by rw [← h]; exact hA⟩
  | f + 1, p, k, h, G, hA => by
    refine Sat.bind ((sat_place O G (by lia) hA k 0 k (by lia) (Nat.zero_le _) (Nat.le_refl _) (fun i hi => by lia) (fun i a b => by lia)).mono fun l hl => ?_)
    exact sat_bin O f _ (k + 1) (by lia) ((Array.perm_iff_toList_perm.mp (bubble_perm p k (k - l))).trans G) (asc_bubble G (by lia) hA hl.1 hl.2.1 hl.2.2)
theorem sat_sort (O : Ord n c) (h1 : 1 ≤ n) : Sat n c (kas_sort n) (fun q => Good n q ∧ Asc c n q) := by
  refine Sat.bind ((sat_count O (p := List.toArray (List.range n)) (List.Perm.refl _) h1).mono fun r hr => ?_)
  obtain ⟨a1, a2, a3, a4⟩ := hr
  by_cases h : r.1 < n
  · rw [if_pos h]
    rw [Nat.max_eq_left a1]
    exact sat_bin O _ _ _ (by lia) a4 a3
  · rw [if_neg h]
    have : r.1 = n := by lia
    rw [this] at a3
    exact ⟨a4, a3⟩
end

theorem ltP_trans {p q r : Int × Str} (h1 : ltP p q = true) (h2 : ltP q r = true) : ltP p r = true := by
  unfold ltP at *
  by_cases a : p.1 = q.1
  · by_cases b : q.1 = r.1
    · rw [if_pos a] at h1
      rw [if_pos b] at h2
      rw [if_pos (a.trans b)]
      exact decide_eq_true (List.lt_trans (of_decide_eq_true h1) (of_decide_eq_true h2))
    · rw [if_neg b] at h2
      rw [if_neg (by rw [a]; exact b), a]
      exact h2
  · rw [if_neg a] at h1
    have h1' := of_decide_eq_true h1
    by_cases b : q.1 = r.1
    · rw [if_neg (by rw [← b]; exact a), ← b]; exact h1
    · rw [if_neg b] at h2
      have h2' := of_decide_eq_true h2
      rw [if_neg (by lia)]
      exact decide_eq_true (by lia)
theorem ltP_total {p q : Int × Str} (hne : p ≠ q) (h : ltP p q = false) : ltP q p = true := by
  unfold ltP at *
  by_cases a : p.1 = q.1
  · rw [if_pos a] at h
    rw [if_pos a.symm]
    have h' := of_decide_eq_false h
    refine decide_eq_true ?_
    refine Decidable.byContradiction fun h2 => hne ?_
    have e := List.le_antisymm (List.not_lt.mp h2) (List.not_lt.mp h')
    have e2 : p.2 = q.2 := by
      cases hp : p.2; cases hq : q.2
      rw [hp, hq] at e
      congr 1
      exact Array.toList_inj.mp e
    exact Prod.ext a e2
  · rw [if_neg a] at h
    rw [if_neg (Ne.symm a)]
    have := of_decide_eq_false h
    exact decide_eq_true (by lia)
theorem sat_wp {α : Type} {n : Nat} {c : Nat → Nat → Bool} {cmp : Nat → Nat → (Bool → Shared → Prop) → Shared → Prop} {s : Shared} (hc : ∀ i j C, i < n → j < n → C (c i j) s → cmp i j C s) {Q : α → Prop} {R : α → Shared → Prop} (hR : ∀ a, Q a → R a s) :
    ∀ (t : KasT α), Sat n c t Q → t.kasWp cmp R s
  | .ret _, h => hR _ h
  | .ask i j k, h => hc i j _ h.1 h.2.1 (sat_wp hc hR (k (c i j)) h.2.2)
section
variable {prog : Program} {w : World} {A : Around} {E : Value → Shared → Prop} {s : Shared}
theorem oneLt_true_int {x y : Int} {t u : Tok} {Q : Bool → Shared → Prop} (h : Q (decide (x < y)) s) : wpAny (model prog w) A (oneLt' true (.int x t) (.int y u)) Q E s := oneLt_int h
theorem keyLt_pair {Q : Bool → Shared → Prop} {u v : Value} {p q : Int × Str} (hp : IsPair s.heap u p) (hq : IsPair s.heap v q) (h : Q (ltP p q) s) : wpAny (model prog w) A (keyLt' (tuples' true) u v) Q E s := by
  obtain ⟨a, oa, t1, t2, na, rfl, hoa, hca, hda⟩ := hp
  obtain ⟨b, ob, t3, t4, nb, rfl, hob, hcb, hdb⟩ := hq
  refine kat_lt hoa hda hob hdb ?_
  show KatLex prog w A true _ Q [(Value.int p.1 t1, Value.int q.1 t3), (Value.str p.2 t2, Value.str q.2 t4)] 0 s
  refine kat_cons ((intKind prog w).eqBool (a := p.1) (b := q.1) (intKind_is _ _ _ _) (intKind_is _ _ _ _) ?_)
  unfold ltP at h
  by_cases h1 : p.1 = q.1
  · rw [decide_eq_true h1]
    rw [if_pos h1] at h
    refine kat_yes (kat_cons ((strKind prog w).eqBool (a := p.2) (b := q.2) (strKind_is _ _ _ _) (strKind_is _ _ _ _) ?_))
    by_cases h2 : p.2 = q.2
    · rw [decide_eq_true h2]
      rw [h2, decide_eq_false (List.lt_irrefl _)] at h
      exact kat_yes (kat_nil h)
    · rw [decide_eq_false h2]
      exact kat_no (kat_one _ _ (lt_str h))
  · rw [decide_eq_false h1]
    rw [if_neg h1] at h
    exact kat_no (oneLt_true_int h)
theorem kat_tups {h : Heap} : ∀ {zs : List Z}, (∀ z ∈ zs, IsPair h z.1 z.2) → ∃ fs, KatTups h (zs.map (·.1)) fs ∧ fs.length = zs.length ∧ ∀ v ∈ fs, ∃ i t, v = Value.int i t
  | [], _ => ⟨[], .nil, rfl, fun v hv => (nomatch hv)⟩
  | z :: zs, hz => by
    obtain ⟨fs, h1, h2, h3⟩ := kat_tups (zs := zs) fun z hz' => hz z (.tail _ hz')
    obtain ⟨a, o, t, u, n, e, ho, hc, hd⟩ := hz z (.head _)
    refine ⟨.int z.2.1 t :: fs, ?_, by simp [h2], fun v hv => ?_⟩
    · rw [List.map_cons, e]
      exact .cons ho hc hd rfl h1
    · rcases List.mem_cons.mp hv with rfl | hv
      · exact ⟨_, _, rfl⟩
      · exact h3 v hv
theorem getD_z (zs : List Z) (i : Nat) : (zs.map (·.1)).getD i Value.none = (zs.getD i dZ).1 := by
  rw [List.getD_eq_getElem?_getD, List.getD_eq_getElem?_getD, List.getElem?_map]
  cases zs[i]? <;> rfl
theorem range_z (zs : List Z) : (List.range zs.length).map (fun i => zs.getD i dZ) = zs := by
  refine List.ext_getElem? fun i => ?_
  rw [List.getElem?_map]
  by_cases h : i < zs.length
  · rw [List.getElem?_range h]
    show some (zs.getD i dZ) = _
    rw [List.getD_eq_getElem?_getD, List.getElem?_eq_getElem h]
    rfl
  · rw [List.getElem?_eq_none (by rw [List.length_range]; lia), List.getElem?_eq_none (by lia)]
    rfl
noncomputable abbrev cZ (zs : List Z) (i j : Nat) : Bool := ltP (zs.getD i dZ).2 (zs.getD j dZ).2
theorem ord_z {zs : List Z} (hnd : (zs.map (·.2)).Nodup) : Ord zs.length (cZ zs) := by
  refine ⟨fun i j k _ _ _ a b => ltP_trans a b, fun i j hi hj hne h => ltP_total (fun e => hne ?_) h⟩
  have e1 : zs.getD i dZ = zs[i] := by rw [List.getD_eq_getElem?_getD, List.getElem?_eq_getElem hi]; rfl
  have e2 : zs.getD j dZ = zs[j] := by rw [List.getD_eq_getElem?_getD, List.getElem?_eq_getElem hj]; rfl
  rw [e1, e2] at e
  exact (List.getElem_inj (h₀ := by simpa using hi) (h₁ := by simpa using hj) hnd).mp (by simpa using e)
theorem asc_sorted {zs : List Z} {p : Array Nat} (G : Good zs.length p) (h : Asc (cZ zs) zs.length p) : ((p.toList.map fun i => zs.getD i dZ).map (·.2)).Pairwise (fun p q => ltP p q = true) := by
  rw [List.map_map, List.pairwise_iff_getElem]
  intro i j hi hj hij
  have hi' : i < p.size := by simpa using hi
  have hj' : j < p.size := by simpa using hj
  have := h i j hij (by rw [G.size] at hj'; exact hj')
  rw [g_eq hi', g_eq hj'] at this
  simpa [cZ, List.getD_eq_getElem?_getD] using this
theorem sort_at {a : Addr} {zs : List Z} {n : Nat} {P : PySem.Fin → Shared → Prop} (ho : s.heap.get? a = some (lo (zs.map (·.1)) n)) (hz : ∀ z ∈ zs, PairX [a] s.heap z) (hnd : (zs.map (·.2)).Nodup) (h64 : zs.length < 64)
    (h : ∀ (ys : List Z) h' e, ys.Perm zs → (ys.map (·.2)).Pairwise (fun p q => ltP p q = true) → (∀ b o, b ≠ a → s.heap.get? b = some o → h'.get? b = some o) → h'.get? a = some (lo (ys.map (·.1)) e) → P (.done (.ret .none)) { s with heap := h' }) :
    wpAny (model prog w) A (Builtin.«list.sort» ⟨[.ref a], []⟩) P E s := by
  have ho' : s.heap.get? a = some (seqObj "list" (zs.map (·.1)).toArray n) := ho
  have ha : a < s.heap.objs.size := Heap.lt_size ho
  obtain ⟨e1, ho1⟩ : ∃ e1, (s.heap.update a (Obj.mapSeq fun _ => (#[] : Array Value))).get? a = some (seqObj "list" #[] e1) := ⟨_, get?_update_seq ho' fun _ => #[]⟩
  generalize hv : zs.map (·.1) = vs at *
  have hvl : vs.length = zs.length := by rw [← hv, List.length_map]
  let h3 : Heap := ((s.heap.update a (Obj.mapSeq fun _ => (#[] : Array Value))).push (seqObj "tuple" vs.toArray 0)).push (seqObj "list" #[] 0)
  have keep : ∀ b o, b ≠ a → s.heap.get? b = some o → h3.get? b = some o := fun b o hb e => Heap.get?_push_of_some _ (Heap.get?_push_of_some _ ((Heap.get?_update_ne _ _ _ _ hb).trans e))
  have ho3 : h3.get? a = some (seqObj "list" #[] e1) := Heap.get?_push_of_some _ (Heap.get?_push_of_some _ ho1)
  rw [list_sort_plain]
  refine wpAny_bind (listItems_at ho' rfl ?_)
  refine wpAny_bind (listUpdate_at ho' rfl ?_ (by rw [List.size_toArray, sizeLine_eq]; lia) (Nat.zero_le _))
  refine wpAny_bind (seqEpoch_at ho1 rfl ?_)
  refine wpAny_bind (wpAny_newTuple ?_ (by show vs.length ≤ _; rw [sizeLine_eq]; lia))
  refine wpAny_bind (wpAny_newList ?_ (Nat.zero_le _))
  refine wpAny_holding ?_
  show wpAny (model prog w) A _ P E { s with heap := h3 }
  dsimp only
  by_cases h2 : vs.toArray.size < 2
  · rw [if_pos h2, if_pos h2]
    refine wpAny_bind (wpAny_pure ?_)
    rw [StateT.run_pure]
    refine wpAny_bind (wpAny_pure ?_)
    dsimp only
    refine wpAny_bind (seqEpoch_at ho3 rfl ?_)
    refine wpAny_bind (listUpdate_at ho3 rfl ?_ (Nat.zero_le _) (by rw [Array.size_map]; show (vs.toArray.zip vs.toArray).size ≤ _; rw [sizeLine_eq]; simp; lia))
    simp only [bne_self_eq_false, Bool.false_eq_true, if_false]
    obtain ⟨c2, hc2⟩ : ∃ c2, (h3.update a (Obj.mapSeq fun _ => (vs.toArray.zip vs.toArray).map (·.2))).get? a = some (seqObj "list" ((vs.toArray.zip vs.toArray).map (·.2)) c2) := ⟨_, get?_update_seq ho3 fun _ => _⟩
    have hout : (vs.toArray.zip vs.toArray).map (·.2) = vs.toArray := by
      apply Array.toList_inj.mp
      rw [Array.toList_map, Array.toList_zip]
      exact List.map_snd_zip (Nat.le_refl _)
    refine wpAny_pure (h zs _ c2 (List.Perm.refl _) ?_ (fun b o hb e => (Heap.get?_update_ne _ _ _ _ hb).trans (keep b o hb e)) (by rw [hv]; exact hc2.trans (by rw [hout])))
    rw [List.size_toArray, hvl] at h2
    rcases zs with _ | ⟨z, _ | ⟨_, _⟩⟩
    · exact List.Pairwise.nil
    · exact List.pairwise_singleton _ _
    · simp at h2; lia
  · rw [if_neg h2, if_neg h2]
    rw [List.size_toArray, hvl] at h2
    have hz3 : ∀ z ∈ zs, IsPair h3 z.1 z.2 := fun z hz' => by
      obtain ⟨b, o, t, u, n, e, hb, ho, r⟩ := hz z hz'
      exact ⟨b, o, t, u, n, e, keep b o (fun q => hb (by rw [q]; exact List.mem_singleton.mpr rfl)) ho, r⟩
    obtain ⟨fs, kt, kl, ki⟩ := kat_tups hz3
    rw [hv] at kt
    refine wpAny_bind (kat_kind (s := { s with heap := h3 }) (T := .type "int") kt (by lia) (fun v hv' => ?_) (by decide) ?_)
    · obtain ⟨i, t, rfl⟩ := ki v hv'
      exact .now
    have hb : (Value.type "int" != Value.type "tuple") = true := by decide
    rw [hb]
    refine wpAny_bind (wpAny_mono (kat_run (s := { s with heap := h3 }) (Q := fun st' s' => ∃ p : Array Nat, p.size = vs.length ∧ arrOf st' = p.map (kas_item (vs.toArray.zip vs.toArray)) ∧ failedOf st' = none ∧ (s' = { s with heap := h3 } ∧ Good zs.length p ∧ Asc (cZ zs) zs.length p))
      rfl (by lia) (by lia) (fun p' st' s' a1 a2 a3 a4 => ⟨p', a1, a2, a3, a4⟩) (sat_wp (n := zs.length) (c := cZ zs) (fun i j C hi hj hC => ?_) (fun a q => ⟨rfl, q⟩) _ (by rw [hvl]; exact sat_sort (ord_z hnd) (by lia)))) ?_ fun _ _ e => e)
    · show wpAny _ _ (keyLt' _ (vs.getD i Value.none) (vs.getD j Value.none)) _ _ _
      rw [← hv, getD_z, getD_z]
      have e1 : zs.getD i dZ = zs[i] := by rw [List.getD_eq_getElem?_getD, List.getElem?_eq_getElem hi]; rfl
      have e2 : zs.getD j dZ = zs[j] := by rw [List.getD_eq_getElem?_getD, List.getElem?_eq_getElem hj]; rfl
      refine keyLt_pair (p := (zs.getD i dZ).2) (q := (zs.getD j dZ).2) ?_ ?_ hC
      · rw [e1]; exact hz3 _ (List.getElem_mem hi)
      · rw [e2]; exact hz3 _ (List.getElem_mem hj)
    · rintro ⟨⟨⟩, st'⟩ s' ⟨p, hp, har, hf, rfl, hG, hA⟩
      dsimp only
      have hout := kat_snds rfl har
      have ho2 : (p.toList.map fun i => vs.getD i Value.none) = (p.toList.map fun i => zs.getD i dZ).map (·.1) := by
        rw [List.map_map]
        exact List.map_congr_left fun i _ => by rw [← hv, getD_z]; rfl
      rw [ho2] at hout
      rw [hout]
      generalize hys : (p.toList.map fun i => zs.getD i dZ) = ys at *
      have hyl : ys.length = zs.length := by rw [← hys, List.length_map, Array.length_toList, hG.size]
      obtain ⟨c2, hc2⟩ : ∃ c2, (h3.update a (Obj.mapSeq fun _ => List.toArray (ys.map (·.1)))).get? a = some (seqObj "list" (List.toArray (ys.map (·.1))) c2) := ⟨_, get?_update_seq ho3 fun _ => _⟩
      refine wpAny_bind (seqEpoch_at ho3 rfl ?_)
      refine wpAny_bind (listUpdate_at ho3 rfl ?_ (Nat.zero_le _) (by rw [List.size_toArray, List.length_map, hyl, sizeLine_eq]; lia))
      rw [hf]
      simp only [bne_self_eq_false, Bool.false_eq_true, if_false]
      refine wpAny_pure (h ys _ c2 ?_ ?_ (fun b o hb e => (Heap.get?_update_ne _ _ _ _ hb).trans (keep b o hb e)) hc2)
      · rw [← hys]
        exact (hG.map _).trans (List.Perm.of_eq (range_z zs))
      · rw [← hys]
        exact asc_sorted hG hA
end

theorem perm_lift {α β : Type} {f : α → β} {l m : List β} (h : l.Perm m) : ∀ zs : List α, m = zs.map f → ∃ zs' : List α, l = zs'.map f ∧ zs'.Perm zs := by
  induction h with
  | nil => intro zs e; exact ⟨[], rfl, by rw [List.map_eq_nil_iff.mp e.symm]⟩
  | cons x _ ih =>
    intro zs e
    obtain ⟨z, r, rfl, rfl, rfl⟩ := List.map_eq_cons_iff.mp e.symm
    obtain ⟨zs', rfl, hp⟩ := ih r rfl
    exact ⟨z :: zs', rfl, hp.cons z⟩
  | swap x y l =>
    intro zs e
    obtain ⟨z, r, rfl, rfl, e2⟩ := List.map_eq_cons_iff.mp e.symm
    obtain ⟨z2, r2, rfl, rfl, rfl⟩ := List.map_eq_cons_iff.mp e2
    exact ⟨z2 :: z :: r2, rfl, List.Perm.swap _ _ _⟩
  | trans _ _ ih1 ih2 =>
    intro zs e
    obtain ⟨z1, e1, p1⟩ := ih2 zs e
    obtain ⟨z2, e2, p2⟩ := ih1 z1 e1
    exact ⟨z2, e2, p2.trans p1⟩
section
variable {prog : Program} {w : World} {A : Around} {E : Value → Shared → Prop} {s : Shared}
theorem sorted_set {S : Addr} {ps : List (Int × Str)} {Q : Value → Shared → Prop} (hh : A.handled = none) (X : SetOfK prog w S (ledOf w) ps s.heap) (hD : ∀ qs : List (Int × Str), qs.Nodup → (∀ q ∈ qs, q ∈ ps) → qs.length < 64)
    (h : ∀ (ys : List Z) D h' d e, s.heap.get? D = none → (ys.map (·.2)).Pairwise (fun p q => ltP p q = true) → (∀ p, p ∈ ys.map (·.2) ↔ p ∈ ps) → (∀ b o, s.heap.get? b = some o → h'.get? b = some o) → h'.get? D = some (lo (ys.map (·.1)) e) → (∀ z ∈ ys, PairX [D] h' z) → Q (.ref D) { s with heap := h', drawn := d }) :
    wpAny (model prog w) A (call (.builtin "sorted") [.ref S]) Q E s := by
  obtain ⟨zs, n, t, l, mask, Y, hmask, hled, hpl, hmem⟩ := X
  have hnd : (zs.map (·.2)).Nodup := Y.inv.nodup
  have hlen : zs.length < 64 := by
    have := hD _ hnd fun q hq => (hmem q).mp hq
    rwa [List.length_map] at this
  have XB : SetB (hp prog w) S zs n t l s.heap := ⟨Y.obj, Y.tab, Y.len, by rw [Y.msk]; have := Y.room; lia⟩
  refine Calls.call_function_entry kind_sorted plain_sorted entry_sorted (args_sorted1 _) ?_
  unfold Builtin.«sorted»
  refine wpAny_bind (m := checkCount "sorted" 1 1 _) (wpAny_pure ?_)
  refine wpAny_bind (collect_set hh XB hled hpl (by lia) fun order h1 d hperm hk1 => ?_)
  obtain ⟨zs', rfl, hp'⟩ := perm_lift hperm zs rfl
  have hl' : zs'.length = zs.length := hp'.length_eq
  refine wpAny_bind (wpAny_newList ?_ (by rw [sizeLine_eq, List.length_map]; lia))
  have hoL : (h1.push (lo (zs'.map (·.1)) 0)).get? h1.objs.size = some (lo (zs'.map (·.1)) 0) := Heap.get?_push_size _ rfl
  have hpx : ∀ z ∈ zs', PairX [h1.objs.size] (h1.push (lo (zs'.map (·.1)) 0)) z := fun z hz => by
    obtain ⟨a, o, t, u, n, e, _, ho, r⟩ := Y.prs z (hp'.mem_iff.mp hz)
    have ho1 := hk1 a o ho
    exact ⟨a, o, t, u, n, e, fun q => absurd (List.mem_singleton.mp q) (Nat.ne_of_lt (Heap.lt_size ho1)), Heap.get?_push_of_some _ ho1, r⟩
  have hle : s.heap.get? h1.objs.size = none := by
    cases hq : s.heap.get? h1.objs.size with
    | none => rfl
    | some o => exact absurd (Heap.lt_size (hk1 _ _ hq)) (Nat.lt_irrefl _)
  refine wpAny_bind (wpAny_holding (wpAny_call_entry slot_list_sort ⟨_, hoL, rfl⟩ entry_list_sort ?body (args_list_sort _)))
  refine sort_at (s := { s with heap := h1.push (lo (zs'.map (·.1)) 0), drawn := d }) hoL hpx ((hp'.map _).nodup_iff.mpr hnd) (by lia) fun ys h' e hpy hsort hk hget => ?_
  refine ⟨_, rfl, wpAny_pure ⟨_, rfl, h ys _ h' d e hle hsort (fun p => ?_) (fun b o q => ?_) hget fun z hz => ?_⟩⟩
  · rw [((hpy.trans hp').map (·.2)).mem_iff]; exact hmem p
  · have q1 := hk1 b o q
    exact hk b o (Nat.ne_of_lt (Heap.lt_size q1)) (Heap.get?_push_of_some _ q1)
  · obtain ⟨a, o, t, u, n, e, hn, ho, r⟩ := hpx z (hpy.mem_iff.mp hz)
    exact ⟨a, o, t, u, n, e, hn, hk a o (fun q => hn (by rw [q]; exact List.mem_singleton.mpr rfl)) ho, r⟩
end

/-- one turn's end of a comprehension's loop -/
inductive GenQ (gs : Array GenState) (dr : Drawn) (os : OsState) (fp : List Addr) (J : Heap → Prop) (B : Option Value → Heap → Prop) (h : Heap) (s' : Shared) : Prop
  | mk (h' : Heap) (tk' : Nat) (b : Option Value) (e : s' = ⟨h', gs, dr, tk', os⟩) (j : J h') (hb : B b h') (k : ∀ b ∈ fp, ∀ o, h.get? b = some o → h'.get? b = some o)
inductive GenI (gs : Array GenState) (dr : Drawn) (os : OsState) (n : Nat) (St : Nat → Heap → Prop) (J : Nat → Heap → Prop) (B : Option Value → Heap → Prop) (k : Nat) (s' : Shared) : Prop
  | mk (i : Nat) (h : Heap) (tk : Nat) (b : Option Value) (ek : k = n - i) (hi : i ≤ n) (e : s' = ⟨h, gs, dr, tk, os⟩) (st : St i h) (hb : B b h) (j : J i h)
inductive AccJ (hp : Heap) (wr : List Addr) (n : Nat) (J : Nat → List Value → Heap → Prop) (i : Nat) (h : Heap) : Prop
  | mk (ys : List Value) (c : Nat) (hi : i ≤ n) (hy : ys.length ≤ i) (j : J i ys h) (hD : h.get? hp.objs.size = some (lo ys c)) (k : ∀ b o, b ∉ wr → hp.get? b = some o → h.get? b = some o)
section
variable {prog : Program} {w : World} {A : Around} {s : Shared} {E : Value → Shared → Prop}
theorem comp_gen {e elt : Expr} {gens : List Comprehension} {scope : Scope} {pos : Pos} {depth : Nat} {x : Str} {px p0 : Pos} {acc : Value} {cenv : Env} {body : Sem Unit} {I : Addr} {fp wr BX : List Addr} {n : Nat} {P : Nat → Value → Prop} {St : Nat → Heap → Prop} {R : Result → Shared → Prop}
    (J : Nat → Heap → Prop) (B : Option Value → Heap → Prop) {b0 : Option Value} (he : e = .ListComp elt gens scope pos)
    (heq : compTurn e depth (.ref I) acc cenv = (standAt p0 >>= fun _ => pyNext (.ref I) >>= fun r => match r with
      | none => pure (.done .next)
      | some v => letOwnedTupleGo (.Name x px) (.ref I) v >>= fun _ => assign (.Name x px) cenv v >>= fun _ => body >>= fun _ => again (.compLoop e depth (.ref I) acc cenv)))
    (W : Walks prog w A I fp wr n P St) (hBf : ∀ b ∈ BX, b ∉ fp) (hst : St 0 s.heap) (hB : B b0 s.heap) (hJ : J 0 s.heap)
    (hBst : ∀ b h h', B b h → (∀ a o, a ∈ BX → h.get? a = some o → h'.get? a = some o) → B b h')
    (hBset : ∀ (s : Shared) b v (Q : Unit → Shared → Prop) (E : Value → Shared → Prop), B b s.heap → (∀ h' tk, (∀ a o, a ∉ BX → s.heap.get? a = some o → h'.get? a = some o) → B (some v) h' → Q () { s with heap := h', toks := tk }) → wpAny (model prog w) A (assign (.Name x px) cenv v) Q E s)
    (hJst : ∀ i h h', J i h → (∀ b o, b ∉ BX → b ∉ wr → h.get? b = some o → h'.get? b = some o) → J i h')
    (turn : ∀ i v h tk, i < n → P i v → J i h → B (some v) h → St (i + 1) h →
      wpAny (model prog w) A body (fun _ s' => GenQ s.gens s.drawn s.os fp (J (i + 1)) B h s') (fun _ _ => False) { s with heap := h, toks := tk })
    (done : ∀ h tk b, J n h → B b h → R (.ok .next) { s with heap := h, toks := tk }) :
    codeAny (model prog w) A (.compLoop e depth (.ref I) acc cenv) R s := by
  subst he
  refine codeAny_loop rfl (GenI s.gens s.drawn s.os n St J B) (fun k s' hI => ?_) n ⟨0, s.heap, s.toks, b0, rfl, Nat.zero_le _, rfl, hst, hB, hJ⟩
  obtain ⟨i, h, tk, b, rfl, hi, rfl, hst, hB, hJ⟩ := hI
  show wpAny _ A ((compTurn (.ListComp elt gens scope pos) depth (.ref I) acc cenv).onRaise (fun x => do noteFrame x cenv; theTreesLotGoes x)) _ _ _
  refine wpAny_noted ?_
  rw [heq]
  refine wpAny_bind (wpAny_standAt ?_)
  have hBw : ∀ b ∈ BX, b ∉ wr := fun b hb q => hBf b hb (W.sub b q)
  by_cases hlt : i < n
  · refine wpAny_bind (W.item i _ _ _ hlt hst fun v h1 tk1 hP hst1 hk1 => ?_)
    refine wpAny_bind (wpAny_of_eq (a := ()) rfl ?_)
    have hB1 := hBst b h h1 hB fun a o ha e => hk1 a o (hBw a ha) e
    have hJ1 := hJst i h h1 hJ fun a o _ ha e => hk1 a o ha e
    refine wpAny_bind (hBset { s with heap := h1, toks := tk1 } b v _ _ hB1 fun h2 tk2 hk2 hB2 => ?_)
    have hst2 := W.frame _ _ h2 hst1 fun a ha o e => hk2 a o (fun q => hBf a q ha) e
    have hJ2 := hJst i h1 h2 hJ1 fun a o ha _ e => hk2 a o ha e
    refine wpAny_bind (wpAny_mono (turn i v h2 tk2 hlt hP hJ2 hB2 hst2) (fun _ s3 h3 => ?_) fun _ _ x => x.elim)
    obtain ⟨h', tk', b', rfl, hJ', hB', hk'⟩ := h3
    exact wpAny_pure ⟨rfl, n - (i + 1), by lia, i + 1, h', tk', b', rfl, hlt, rfl, W.frame _ _ _ hst2 hk', hB', hJ'⟩
  · obtain rfl : i = n := by lia
    refine wpAny_bind (W.done _ _ _ hst fun h1 tk1 hk1 => ?_)
    exact wpAny_pure (done h1 tk1 b (hJst _ h h1 hJ fun a o _ ha e => hk1 a o ha e) (hBst b h h1 hB fun a o ha e => hk1 a o (hBw a ha) e))
end

section
variable {prog : Program} {w : World} {A : Around} {s : Shared} {E : Value → Shared → Prop} {env : Env}
theorem keepsNs {h h' : Heap} {C : Addr} {m : Str → Option Value} (x : h.Ns C m) (hk : ∀ o, h.get? C = some o → h'.get? C = some o) : h'.Ns C m := x.at' hk
noncomputable abbrev testsOf (ifs : List Expr) (cenv : Env) : Sem Bool := forIn ifs true fun c r => if r = true then do let ok ← isTrue c cenv (eval c cenv); pure (ForInStep.yield ok) else pure (ForInStep.yield r)
theorem comp_eq1 (elt iter : Expr) (x : Str) (px : Pos) (ifs : List Expr) (scope : Scope) (pos : Pos) (it acc : Value) (env : Env) :
    compTurn (.ListComp elt [⟨.Name x px, iter, ifs, 0⟩] scope pos) 0 it acc env = (standAt iter.pos >>= fun _ => pyNext it >>= fun r => match r with
      | none => pure (.done .next)
      | some v => letOwnedTupleGo (.Name x px) it v >>= fun _ => assign (.Name x px) env v >>= fun _ =>
        (testsOf ifs env >>= fun ok => if ok = true then (eval elt env >>= fun x => call (.builtin "list.append") [acc, x] >>= fun _ => pure ()) else pure ()) >>= fun _ => again (.compLoop (.ListComp elt [⟨.Name x px, iter, ifs, 0⟩] scope pos) 0 it acc env)) := by
  rw [compTurn_list]
  refine congrArg (fun k => standAt iter.pos >>= k) (funext fun _ => congrArg (fun k => pyNext it >>= k) (funext fun r => ?_))
  cases r with
  | none => rfl
  | some v =>
    refine congrArg (fun k => letOwnedTupleGo (.Name x px) it v >>= k) (funext fun _ => congrArg (fun k => assign (.Name x px) env v >>= k) (funext fun _ => ?_))
    rw [bind_assoc]
    refine congrArg (fun k => testsOf ifs env >>= k) (funext fun ok => ?_)
    cases ok with
    | true => rfl
    | false => rfl
theorem comp_core {elt iter : Expr} {x : Str} {px : Pos} {ifs : List Expr} {scope : Scope} {cl : List (Str × Addr)} {pos : Pos} {I : Addr} {fp wr : List Addr} {n : Nat} {P : Nat → Value → Prop} {St : Nat → Heap → Prop} {RR : Value → Addr → Result → Shared → Prop}
    (J : Nat → List Value → Heap → Prop) (W : Walks prog w A I fp wr n P St) (hn : n < 10000)
    (hcell : ∀ y ∈ scope.names, y.2 ≠ .cell) (hkind : scope.kind = .function) (hx : scope.names.lookup x = some .local) (hst : St 0 s.heap) (hfp : ∀ b ∈ fp, b < s.heap.objs.size)
    (hJ0 : ∀ h', (∀ b o, s.heap.get? b = some o → h'.get? b = some o) → J 0 [] h')
    (hJst : ∀ i ys h h', J i ys h → (∀ b o, b ∉ wr → b ≠ s.heap.objs.size → b ≠ s.heap.objs.size + 1 → h.get? b = some o → h'.get? b = some o) → J i ys h')
    (turn : ∀ i v ys h tk m, i < n → P i v → J i ys h → h.Ns (s.heap.objs.size + 1) m → m x = some v → (∃ o, h.get? s.heap.objs.size = some o) → (∀ b o, b ∉ wr → s.heap.get? b = some o → h.get? b = some o) → St (i + 1) h →
      wpAny (model prog w) A (testsOf ifs (compEnvC scope cl (s.heap.objs.size + 1) env)) (fun ok s₃ => if ok = true then
          wpAny (model prog w) A (eval elt (compEnvC scope cl (s.heap.objs.size + 1) env)) (fun y s₄ => StepQ s.gens s.drawn s.os h (J (i + 1) (ys ++ [y])) s₄) (fun _ _ => False) s₃
        else StepQ s.gens s.drawn s.os h (J (i + 1) ys) s₃) (fun _ _ => False) { s with heap := h, toks := tk })
    (hR : ∀ ys h' tk m c, J n ys h' → h'.Ns (s.heap.objs.size + 1) m → h'.get? s.heap.objs.size = some (lo ys c) → (∀ b o, b ∉ wr → s.heap.get? b = some o → h'.get? b = some o) → RR (.ref s.heap.objs.size) (s.heap.objs.size + 1) (.ok .next) { s with heap := h', toks := tk }) :
    wpAny (model prog w) A (newList []) (fun acc s₃ => wpAny (model prog w) A (newFunctionEnv scope env.globals cl [] env.qual none .none (some env)) (fun cenv s₄ =>
      codeAny (model prog w) A (.compStart (.ListComp elt [⟨.Name x px, iter, ifs, 0⟩] scope pos) 0 (.ref I) acc { cenv with scope := relabel scope env }) (RR acc cenv.locals) s₄) E s₃) E s := by
  refine wpAny_newObj_type (wpAny_newFunctionEnv hcell (by intro y hy; simp at hy) (fun h₁ hns₁ hsb₁ => ?_) hkind)
  dsimp only at hns₁ hsb₁ ⊢
  have hsz : (s.heap.push (lo [] 0)).objs.size = s.heap.objs.size + 1 := Heap.size_push ..
  have hC : (s.heap.push { cls := Value.type "list", dict := none, data := Data.seq ([] : List Value).toArray }).objs.size = s.heap.objs.size + 1 := hsz
  rw [hC] at hns₁ hsb₁ ⊢
  have hk1 : ∀ b o, s.heap.get? b = some o → h₁.get? b = some o := fun b o e => (hsb₁.2 b (Nat.ne_of_lt (Nat.lt_succ_of_lt (Heap.lt_size e)))).trans (Heap.get?_push_of_some _ (Heap.get?_push_of_some _ e))
  have hD1 : h₁.get? s.heap.objs.size = some (lo [] 0) := (hsb₁.2 _ (Nat.ne_of_lt (Nat.lt_succ_self _))).trans (Heap.get?_push_of_some _ (Heap.get?_push_size _ rfl))
  have hst1 : St 0 h₁ := W.frame _ _ _ hst fun b _ o e => hk1 b o e
  have hDf : s.heap.objs.size ∉ fp := fun q => Nat.lt_irrefl _ (hfp _ q)
  have hCf : s.heap.objs.size + 1 ∉ fp := fun q => Nat.lt_irrefl _ (Nat.lt_of_succ_lt (hfp _ q))
  have hDw : s.heap.objs.size ∉ wr := fun q => hDf (W.sub _ q)
  have loop : codeAny (model prog w) A (.compLoop (.ListComp elt [⟨.Name x px, iter, ifs, 0⟩] scope pos) 0 (.ref I) (.ref s.heap.objs.size) (compEnvC scope cl (s.heap.objs.size + 1) env)) (RR (.ref s.heap.objs.size) (s.heap.objs.size + 1)) { s with heap := h₁, toks := s.toks + ([] : List (Str × Value)).length } := by
    refine comp_gen (s := { s with heap := h₁, toks := s.toks + ([] : List (Str × Value)).length }) (x := x) (px := px) (p0 := iter.pos) (BX := [s.heap.objs.size + 1]) (b0 := none)
      (body := testsOf ifs (compEnvC scope cl (s.heap.objs.size + 1) env) >>= fun ok => if ok = true then (eval elt (compEnvC scope cl (s.heap.objs.size + 1) env) >>= fun x => call (.builtin "list.append") [.ref s.heap.objs.size, x] >>= fun _ => pure ()) else pure ())
      (AccJ s.heap wr n J)
      (fun b h => ∃ m, h.Ns (s.heap.objs.size + 1) m ∧ ∀ v, b = some v → m x = some v) rfl ?heq W ?hBf hst1 ⟨_, hns₁, fun v q => (nomatch q)⟩ ⟨[], 0, Nat.zero_le _, Nat.le_refl _, hJ0 _ hk1, hD1, fun b o _ e => hk1 b o e⟩ ?hBst ?hBset ?hJst ?turn ?done
    case heq => exact comp_eq1 ..
    case hBf => intro b hb; rw [List.mem_singleton.mp hb]; exact hCf
    case hBst => rintro b h h' ⟨m, hm, hv⟩ hk; exact ⟨m, keepsNs hm fun o e => hk _ o (List.mem_singleton.mpr rfl) e, hv⟩
    case hBset =>
      rintro s' b v Q E ⟨m, hm, _⟩ hQ
      refine wpAny_assign_Name (wpAny_storeName_local (lookup_relabel_local hx) hm (fun h₂ hn₂ hs₂ => ?_) (by simp [compEnvC, relabel, hkind]))
      exact hQ h₂ _ (fun a o ha e => (hs₂.2 a fun q => ha (List.mem_singleton.mpr q)).trans e) ⟨_, hn₂, fun v' q => by rw [← Option.some.inj q]; simp⟩
    case hJst =>
      rintro i h h' ⟨ys, c, hi, hle, hJ, hD, hk⟩ hk'
      refine ⟨ys, c, hi, hle, hJst i ys h h' hJ fun b o hb _ hb2 e => hk' b o (fun q => hb2 (List.mem_singleton.mp q)) hb e, hk' _ _ (fun q => Nat.ne_of_lt (Nat.lt_succ_self _) (List.mem_singleton.mp q)) hDw hD, fun b o hb e => hk' b o (fun q => ?_) hb (hk b o hb e)⟩
      have := Heap.lt_size e
      rw [List.mem_singleton.mp q] at this
      exact Nat.lt_irrefl _ (Nat.lt_of_succ_lt this)
    case turn =>
      rintro i v h tk hi hP ⟨ys, c, _, hle, hJ, hD, hk⟩ ⟨m, hm, hv⟩ hst2
      refine wpAny_bind (wpAny_mono (turn i v ys h tk m hi hP hJ hm (hv v rfl) ⟨_, hD⟩ hk hst2) (fun ok s₃ h₃ => ?_) fun _ _ q => q)
      cases ok with
      | false =>
        rw [if_neg Bool.false_ne_true] at h₃ ⊢
        obtain ⟨h', tk', rfl, hk', hJ'⟩ := h₃
        exact wpAny_pure ⟨h', tk', none, rfl, ⟨ys, c, hi, Nat.le_succ_of_le hle, hJ', hk' _ _ hD, fun b o hb e => hk' b o (hk b o hb e)⟩, ⟨m, keepsNs hm fun o e => hk' _ o e, fun v q => (nomatch q)⟩, fun b _ o e => hk' b o e⟩
      | true =>
        rw [if_pos rfl] at h₃ ⊢
        refine wpAny_bind (wpAny_mono h₃ (fun y s₄ h₄ => ?_) fun _ _ q => q)
        obtain ⟨h', tk', rfl, hk', hJ'⟩ := h₄
        refine wpAny_bind (append_at (s := { s with heap := h', toks := tk' }) (hk' _ _ hD) (fun h₅ hs₅ hget => ?_))
        refine wpAny_pure ⟨h₅, tk', none, rfl, ⟨ys ++ [y], c + 1, hi, by rw [List.length_append, List.length_singleton]; lia, hJst _ _ _ _ hJ' fun b o _ hb _ e => (hs₅.2 b hb).trans e, hget.trans (by rw [List.push_toArray]), fun b o hb e => (hs₅.2 b (Nat.ne_of_lt (Heap.lt_size e))).trans (hk' b o (hk b o hb e))⟩,
          ⟨m, keepsNs hm fun o e => (hs₅.2 _ (Ne.symm (Nat.ne_of_lt (Nat.lt_succ_self _)))).trans (hk' _ o e), fun v q => (nomatch q)⟩, fun b hb o e => (hs₅.2 b fun q => hDf (q ▸ hb)).trans (hk' b o e)⟩
    case done =>
      rintro h tk b ⟨ys, c, _, _, hJ, hD, hk⟩ ⟨m, hm, _⟩
      exact hR ys h tk m c hJ hm hD hk
  exact codeAny_compStart_list loop (W.self 0 _ _ _ hst1 loop)
end

section
variable {prog : Program} {w : World} {A : Around} {s : Shared} {E : Value → Shared → Prop} {env : Env}
/-- the block's own room where one of its names is a cell -/
theorem newEnv_cell {scope : Scope} {cl : List (Str × Addr)} {x d r : Str} {Q : Env → Shared → Prop} (hnm : scope.names = [(d, .local), (x, .cell), (r, .free)])
    (h : ∀ h', (∀ b o, s.heap.get? b = some o → h'.get? b = some o) → h'.Ns s.heap.objs.size (fun _ => none) → h'.IsCell (s.heap.objs.size + 1) none →
      Q { scope := scope, locals := s.heap.objs.size, globals := env.globals, cells := (x, s.heap.objs.size + 1) :: cl, qual := env.qual, func := none, code := env.code, frame := env.frame, builtins := env.builtins } { s with heap := h' }) :
    wpAny (model prog w) A (newFunctionEnv scope env.globals cl [] env.qual none .none (some env)) Q E s := by
  simp only [newFunctionEnv, Option.isSome_some, if_true]
  refine wpAny_bind (wpAny_alloc ?_)
  refine wpAny_bind (wpAny_layCells _ (fun name kind cells => by cases hkc : kind == NameKind.cell <;> simp [hkc]) _ _ _ _ ?_)
  rw [hnm]
  have hs1 : (s.heap.push { cls := .type "dict", data := .dict #[] }).objs.size = s.heap.objs.size + 1 := Heap.size_push ..
  show wpAny _ _ _ _ _ { s with heap := (s.heap.push { cls := .type "dict", data := .dict #[] }).push { cls := .type "cell", data := .cell none } }
  rw [List.forIn_nil]
  refine wpAny_bind (wpAny_pure (wpAny_pure ?_))
  have hc : cellsFrom (s.heap.push { cls := .type "dict", data := .dict #[] }).objs.size [(d, NameKind.local), (x, NameKind.cell), (r, NameKind.free)] cl = (x, s.heap.objs.size + 1) :: cl := by rw [hs1]; rfl
  refine Eq.mpr (congrArg (fun c => Q { scope := scope, locals := s.heap.objs.size, globals := env.globals, cells := c, qual := env.qual, func := none, code := env.code, frame := env.frame, builtins := env.builtins } _) hc) ?_
  refine h _ (fun b o e => Heap.get?_push_of_some _ (Heap.get?_push_of_some _ e)) ((Heap.Ns.new s.heap (.type "dict")).keeps fun b o e => Heap.get?_push_of_some _ e) ⟨{ cls := .type "cell", data := .cell none }, ?_, rfl⟩
  rw [← hs1]
  exact Heap.get?_push_size _ rfl
theorem notTwo {b x y : Addr} (h1 : b ≠ x) (h2 : b ≠ y) : b ∉ [x, y] := fun q => by
  rcases List.mem_cons.mp q with q | q
  · exact h1 q
  · exact h2 (List.mem_singleton.mp q)
theorem comp_cell {elt iter : Expr} {x : Str} {px : Pos} {ifs : List Expr} {scope : Scope} {cl : List (Str × Addr)} {pos : Pos} {I : Addr} {fp wr : List Addr} {n : Nat} {P : Nat → Value → Prop} {St : Nat → Heap → Prop} {RR : Value → Addr → Result → Shared → Prop}
    (J : Nat → List Value → Heap → Prop) (W : Walks prog w A I fp wr n P St) (hn : n < 10000)
    {d0 r0 : Str} (hnm : scope.names = [(d0, .local), (x, .cell), (r0, .free)]) (hkind : scope.kind = .function) (hx : (relabel scope env).names.lookup x = some .cell) (hst : St 0 s.heap) (hfp : ∀ b ∈ fp, b < s.heap.objs.size)
    (hJ0 : ∀ h', (∀ b o, s.heap.get? b = some o → h'.get? b = some o) → J 0 [] h')
    (hJst : ∀ i ys h h', J i ys h → (∀ b o, b ∉ wr → b ≠ s.heap.objs.size → b ≠ s.heap.objs.size + 1 → b ≠ s.heap.objs.size + 1 + 1 → h.get? b = some o → h'.get? b = some o) → J i ys h')
    (turn : ∀ i v ys h tk m, i < n → P i v → J i ys h → h.IsCell (s.heap.objs.size + 1 + 1) (some v) → h.Ns (s.heap.objs.size + 1) m → (∃ o, h.get? s.heap.objs.size = some o) → (∀ b o, b ∉ wr → s.heap.get? b = some o → h.get? b = some o) →
      wpAny (model prog w) A (testsOf ifs (compEnvC scope ((x, s.heap.objs.size + 1 + 1) :: cl) (s.heap.objs.size + 1) env)) (fun ok s₃ => if ok = true then
          wpAny (model prog w) A (eval elt (compEnvC scope ((x, s.heap.objs.size + 1 + 1) :: cl) (s.heap.objs.size + 1) env)) (fun y s₄ => StepQ s.gens s.drawn s.os h (J (i + 1) (ys ++ [y])) s₄) (fun _ _ => False) s₃
        else StepQ s.gens s.drawn s.os h (J (i + 1) ys) s₃) (fun _ _ => False) { s with heap := h, toks := tk })
    (hR : ∀ ys h' tk m c, J n ys h' → h'.Ns (s.heap.objs.size + 1) m → h'.get? s.heap.objs.size = some (lo ys c) → (∀ b o, b ∉ wr → s.heap.get? b = some o → h'.get? b = some o) → RR (.ref s.heap.objs.size) (s.heap.objs.size + 1) (.ok .next) { s with heap := h', toks := tk }) :
    wpAny (model prog w) A (newList []) (fun acc s₃ => wpAny (model prog w) A (newFunctionEnv scope env.globals cl [] env.qual none .none (some env)) (fun cenv s₄ =>
      codeAny (model prog w) A (.compStart (.ListComp elt [⟨.Name x px, iter, ifs, 0⟩] scope pos) 0 (.ref I) acc { cenv with scope := relabel scope env }) (RR acc cenv.locals) s₄) E s₃) E s := by
  refine wpAny_newObj_type (newEnv_cell (s := { s with heap := s.heap.push (lo [] 0) }) hnm (fun h₁ hk0 hns₁ hcl₁ => ?_))
  dsimp only at hns₁ hcl₁ hk0 ⊢
  have hsz : (s.heap.push (lo [] 0)).objs.size = s.heap.objs.size + 1 := Heap.size_push ..
  rw [hsz] at hns₁ hcl₁ ⊢
  have hk1 : ∀ b o, s.heap.get? b = some o → h₁.get? b = some o := fun b o e => hk0 b o (Heap.get?_push_of_some _ e)
  have hD1 : h₁.get? s.heap.objs.size = some (lo [] 0) := hk0 _ _ (Heap.get?_push_size _ rfl)
  have hCC : s.heap.objs.size + 1 + 1 ∉ fp := fun q => Nat.lt_irrefl _ (Nat.lt_of_succ_lt (Nat.lt_of_succ_lt (hfp _ q)))
  have hst1 : St 0 h₁ := W.frame _ _ _ hst fun b _ o e => hk1 b o e
  have hDf : s.heap.objs.size ∉ fp := fun q => Nat.lt_irrefl _ (hfp _ q)
  have hCf : s.heap.objs.size + 1 ∉ fp := fun q => Nat.lt_irrefl _ (Nat.lt_of_succ_lt (hfp _ q))
  have hDw : s.heap.objs.size ∉ wr := fun q => hDf (W.sub _ q)
  have loop : codeAny (model prog w) A (.compLoop (.ListComp elt [⟨.Name x px, iter, ifs, 0⟩] scope pos) 0 (.ref I) (.ref s.heap.objs.size) (compEnvC scope ((x, s.heap.objs.size + 1 + 1) :: cl) (s.heap.objs.size + 1) env)) (RR (.ref s.heap.objs.size) (s.heap.objs.size + 1)) { s with heap := h₁, toks := s.toks } := by
    refine comp_gen (s := { s with heap := h₁, toks := s.toks }) (x := x) (px := px) (p0 := iter.pos) (BX := [s.heap.objs.size + 1 + 1, s.heap.objs.size + 1]) (b0 := none)
      (body := testsOf ifs (compEnvC scope ((x, s.heap.objs.size + 1 + 1) :: cl) (s.heap.objs.size + 1) env) >>= fun ok => if ok = true then (eval elt (compEnvC scope ((x, s.heap.objs.size + 1 + 1) :: cl) (s.heap.objs.size + 1) env) >>= fun x => call (.builtin "list.append") [.ref s.heap.objs.size, x] >>= fun _ => pure ()) else pure ())
      (AccJ s.heap wr n J)
      (fun b h => h.IsCell (s.heap.objs.size + 1 + 1) b ∧ ∃ m, h.Ns (s.heap.objs.size + 1) m) rfl ?heq W ?hBf hst1 ⟨hcl₁, _, hns₁⟩ ⟨[], 0, Nat.zero_le _, Nat.le_refl _, hJ0 _ hk1, hD1, fun b o _ e => hk1 b o e⟩ ?hBst ?hBset ?hJst ?turn ?done
    case heq => exact comp_eq1 ..
    case hBf => intro b hb; rcases List.mem_cons.mp hb with rfl | hb; exact hCC; rw [List.mem_singleton.mp hb]; exact hCf
    case hBst => rintro b h h' ⟨⟨o, ho, hd⟩, m, hm⟩ hk; exact ⟨⟨o, hk _ o (.head _) ho, hd⟩, m, keepsNs hm fun o e => hk _ o (.tail _ (.head _)) e⟩
    case hBset =>
      rintro s' b v Q E ⟨hc, m, hm⟩ hQ
      refine wpAny_assign_Name (wpAny_storeName_cell (c := s.heap.objs.size + 1 + 1) (by simp [compEnvC, relabel, hkind]) hx (by simp [compEnvC]) hc (fun h₂ hc₂ hs₂ => ?_))
      exact hQ h₂ _ (fun a o ha e => (hs₂.2 a fun q => ha (by rw [q]; exact .head _)).trans e) ⟨hc₂, m, keepsNs hm fun o e => (hs₂.2 _ (Nat.ne_of_lt (Nat.lt_succ_self _))).trans e⟩
    case hJst =>
      rintro i h h' ⟨ys, c, hi, hle, hJ, hD, hk⟩ hk'
      refine ⟨ys, c, hi, hle, hJst i ys h h' hJ fun b o hb _ hb2 hb3 e => hk' b o (notTwo hb3 hb2) hb e, hk' _ _ (notTwo (Nat.ne_of_lt (Nat.lt_succ_of_lt (Nat.lt_succ_self _))) (Nat.ne_of_lt (Nat.lt_succ_self _))) hDw hD, fun b o hb e => hk' b o (notTwo (Nat.ne_of_lt (Nat.lt_succ_of_lt (Nat.lt_succ_of_lt (Heap.lt_size e)))) (Nat.ne_of_lt (Nat.lt_succ_of_lt (Heap.lt_size e)))) hb (hk b o hb e)⟩
    case turn =>
      rintro i v h tk hi hP ⟨ys, c, _, hle, hJ, hD, hk⟩ ⟨hcv, m, hm⟩ hst2
      refine wpAny_bind (wpAny_mono (turn i v ys h tk m hi hP hJ hcv hm ⟨_, hD⟩ hk) (fun ok s₃ h₃ => ?_) fun _ _ q => q)
      cases ok with
      | false =>
        rw [if_neg Bool.false_ne_true] at h₃ ⊢
        obtain ⟨h', tk', rfl, hk', hJ'⟩ := h₃
        exact wpAny_pure ⟨h', tk', some v, rfl, ⟨ys, c, hi, Nat.le_succ_of_le hle, hJ', hk' _ _ hD, fun b o hb e => hk' b o (hk b o hb e)⟩, ⟨hcv.keeps hk', m, keepsNs hm fun o e => hk' _ o e⟩, fun b _ o e => hk' b o e⟩
      | true =>
        rw [if_pos rfl] at h₃ ⊢
        refine wpAny_bind (wpAny_mono h₃ (fun y s₄ h₄ => ?_) fun _ _ q => q)
        obtain ⟨h', tk', rfl, hk', hJ'⟩ := h₄
        refine wpAny_bind (append_at (s := { s with heap := h', toks := tk' }) (hk' _ _ hD) (fun h₅ hs₅ hget => ?_))
        refine wpAny_pure ⟨h₅, tk', some v, rfl, ⟨ys ++ [y], c + 1, hi, by rw [List.length_append, List.length_singleton]; lia, hJst _ _ _ _ hJ' fun b o _ hb _ _ e => (hs₅.2 b hb).trans e, hget.trans (by rw [List.push_toArray]), fun b o hb e => (hs₅.2 b (Nat.ne_of_lt (Heap.lt_size e))).trans (hk' b o (hk b o hb e))⟩,
          ⟨(hcv.keeps hk').sameBut hs₅ (Ne.symm (Nat.ne_of_lt (Nat.lt_succ_of_lt (Nat.lt_succ_self _)))), m, keepsNs hm fun o e => (hs₅.2 _ (Ne.symm (Nat.ne_of_lt (Nat.lt_succ_self _)))).trans (hk' _ o e)⟩, fun b hb o e => (hs₅.2 b fun q => hDf (q ▸ hb)).trans (hk' b o e)⟩
    case done =>
      rintro h tk b ⟨ys, c, _, _, hJ, hD, hk⟩ ⟨_, m, hm⟩
      exact hR ys h tk m c hJ hm hD hk
  exact codeAny_compStart_list loop (W.self 0 _ _ _ hst1 loop)
end

section
variable {prog : Program} {w : World} {A : Around} {s : Shared} {E : Value → Shared → Prop} {env : Env}
theorem comp_eq20 (elt i0 i1 : Expr) (x0 x1 : Str) (p0 p1 : Pos) (scope : Scope) (pos : Pos) (it acc : Value) (env : Env) :
    compTurn (.ListComp elt [⟨.Name x0 p0, i0, [], 0⟩, ⟨.Name x1 p1, i1, [], 0⟩] scope pos) 0 it acc env = (standAt i0.pos >>= fun _ => pyNext it >>= fun r => match r with
      | none => pure (.done .next)
      | some v => letOwnedTupleGo (.Name x0 p0) it v >>= fun _ => assign (.Name x0 p0) env v >>= fun _ =>
        (eval i1 env >>= fun x => standAt i1.pos >>= fun _ => foldedSetIterable i1 env x >>= fun x => holding [x] (pyIter x) >>= fun it1 => runOwn (.compStart (.ListComp elt [⟨.Name x0 p0, i0, [], 0⟩, ⟨.Name x1 p1, i1, [], 0⟩] scope pos) 1 it1 acc env) env >>= fun _ => pure ()) >>= fun _ => again (.compLoop (.ListComp elt [⟨.Name x0 p0, i0, [], 0⟩, ⟨.Name x1 p1, i1, [], 0⟩] scope pos) 0 it acc env)) := by
  refine Eq.trans (b := (standAt i0.pos >>= fun _ => pyNext it >>= fun r => match r with
      | none => pure (.done .next)
      | some v => letOwnedTupleGo (.Name x0 p0) it v >>= fun _ => assign (.Name x0 p0) env v >>= fun _ =>
        eval i1 env >>= fun x => standAt i1.pos >>= fun _ => foldedSetIterable i1 env x >>= fun x => holding [x] (pyIter x) >>= fun it1 => runOwn (.compStart (.ListComp elt [⟨.Name x0 p0, i0, [], 0⟩, ⟨.Name x1 p1, i1, [], 0⟩] scope pos) 1 it1 acc env) env >>= fun _ => again (.compLoop (.ListComp elt [⟨.Name x0 p0, i0, [], 0⟩, ⟨.Name x1 p1, i1, [], 0⟩] scope pos) 0 it acc env))) (by rfl) ?_
  refine congrArg (fun k => standAt i0.pos >>= k) (funext fun _ => congrArg (fun k => pyNext it >>= k) (funext fun r => ?_))
  cases r with
  | none => rfl
  | some v =>
    refine congrArg (fun k => letOwnedTupleGo (.Name x0 p0) it v >>= k) (funext fun _ => congrArg (fun k => assign (.Name x0 p0) env v >>= k) (funext fun _ => ?_))
    simp only [bind_assoc, pure_bind]
theorem comp_eq21 (elt i0 i1 : Expr) (x0 x1 : Str) (p0 p1 : Pos) (scope : Scope) (pos : Pos) (it acc : Value) (env : Env) :
    compTurn (.ListComp elt [⟨.Name x0 p0, i0, [], 0⟩, ⟨.Name x1 p1, i1, [], 0⟩] scope pos) 1 it acc env = (standAt i1.pos >>= fun _ => pyNext it >>= fun r => match r with
      | none => pure (.done .next)
      | some v => letOwnedTupleGo (.Name x1 p1) it v >>= fun _ => assign (.Name x1 p1) env v >>= fun _ =>
        (eval elt env >>= fun x => call (.builtin "list.append") [acc, x] >>= fun _ => pure ()) >>= fun _ => again (.compLoop (.ListComp elt [⟨.Name x0 p0, i0, [], 0⟩, ⟨.Name x1 p1, i1, [], 0⟩] scope pos) 1 it acc env)) := by
  rfl
theorem compStart_two {elt i0 i1 : Expr} {x0 x1 : Str} {p0 p1 : Pos} {scope : Scope} {pos : Pos} {it acc : Value} {env : Env} {R : Result → Shared → Prop}
    (h0 : codeAny (model prog w) A (.compLoop (.ListComp elt [⟨.Name x0 p0, i0, [], 0⟩, ⟨.Name x1 p1, i1, [], 0⟩] scope pos) 1 it acc env) R s)
    (h : wpAny (model prog w) A (pyIter it) (fun it' s' => codeAny (model prog w) A (.compLoop (.ListComp elt [⟨.Name x0 p0, i0, [], 0⟩, ⟨.Name x1 p1, i1, [], 0⟩] scope pos) 1 it' acc env) R s') (fun _ _ => False) s) :
    codeAny (model prog w) A (.compStart (.ListComp elt [⟨.Name x0 p0, i0, [], 0⟩, ⟨.Name x1 p1, i1, [], 0⟩] scope pos) 1 it acc env) R s := by
  refine codeAny_of_tree ?_
  show wpAny _ _ ((compStart (.ListComp elt [⟨.Name x0 p0, i0, [], 0⟩, ⟨.Name x1 p1, i1, [], 0⟩] scope pos) 1 it acc env).onRaise (fun x => do noteFrame x env; standAt theWindowsPlace)) _ _ s
  refine wpAny_notedAt ?_
  unfold compStart
  show wpAny _ _ (ask >>= _) _ _ s
  refine wpAny_bind (wpAny_askSetting (wpAny_ite ?_))
  split
  · exact wpAny_pure (And.intro rfl h0)
  · refine wpAny_bind (wpAny_rule ?_)
    show wpAny _ _ (standAt i1.pos >>= _) _ _ s
    exact wpAny_bind (wpAny_standAt (wpAny_bind (wpAny_mono h (fun it' s' h' => wpAny_pure (And.intro rfl h')) fun _ _ x => x.elim)))
end

inductive RowAt (X : List Addr) (h : Heap) (v : Value) (r : List Int) : Prop
  | mk (a : Addr) (e : Nat) (vs : List Value) (q : v = .ref a ∧ a ∉ X ∧ h.get? a = some (lo vs e) ∧ IntsAre vs r)
noncomputable def Rows (X : List Addr) (h : Heap) (ys : List Value) (rs : List (List Int)) : Prop := ys.length = rs.length ∧ ∀ (i : Nat) v r, ys[i]? = some v → rs[i]? = some r → RowAt X h v r
theorem RowAt.stab {X : List Addr} {h h' : Heap} {v : Value} {r : List Int} (x : RowAt X h v r) (hk : ∀ b o, b ∉ X → h.get? b = some o → h'.get? b = some o) : RowAt X h' v r := by
  obtain ⟨a, e, vs, rfl, ha, hg, hi⟩ := x
  exact ⟨a, e, vs, rfl, ha, hk a _ ha hg, hi⟩
theorem Rows.stab {X : List Addr} {h h' : Heap} {ys : List Value} {rs : List (List Int)} (x : Rows X h ys rs) (hk : ∀ b o, b ∉ X → h.get? b = some o → h'.get? b = some o) : Rows X h' ys rs :=
  ⟨x.1, fun i v r a b => (x.2 i v r a b).stab hk⟩
theorem Rows.snoc {X : List Addr} {h : Heap} {ys : List Value} {rs : List (List Int)} {v : Value} {r : List Int} (x : Rows X h ys rs) (y : RowAt X h v r) : Rows X h (ys ++ [v]) (rs ++ [r]) := by
  refine ⟨by rw [List.length_append, List.length_append, x.1]; rfl, fun i v' r' a b => ?_⟩
  by_cases hi : i < ys.length
  · rw [List.getElem?_append_left hi] at a
    rw [List.getElem?_append_left (x.1 ▸ hi)] at b
    exact x.2 i v' r' a b
  · rw [List.getElem?_append_right (by lia)] at a
    rw [List.getElem?_append_right (by have := x.1; lia)] at b
    have hi0 : i - ys.length = 0 := by
      cases q : i - ys.length with
      | zero => rfl
      | succ n => rw [q] at a; simp at a
    rw [hi0] at a
    rw [← x.1, hi0] at b
    obtain rfl := Option.some.inj (show some v = some v' from a)
    obtain rfl := Option.some.inj (show some r = some r' from b)
    exact y
theorem RowAt.more {X Y : List Addr} {h : Heap} {v : Value} {r : List Int} (x : RowAt X h v r) (hk : ∀ a, a ∉ X → (∃ vs e, h.get? a = some (lo vs e)) → a ∉ Y) : RowAt Y h v r := by
  obtain ⟨a, e, vs, rfl, ha, hg, hi⟩ := x
  exact ⟨a, e, vs, rfl, hk a ha ⟨_, _, hg⟩, hg, hi⟩
theorem Rows.more {X Y : List Addr} {h : Heap} {ys : List Value} {rs : List (List Int)} (x : Rows X h ys rs) (hk : ∀ a, a ∉ X → (∃ vs e, h.get? a = some (lo vs e)) → a ∉ Y) : Rows Y h ys rs :=
  ⟨x.1, fun i v r a b => (x.2 i v r a b).more hk⟩
theorem intAt {ws : List Value} {ks : List Int} (h : IntsAre ws ks) : ∀ {i : Nat} {v : Value}, ws[i]? = some v → ∃ k t, v = .int k t ∧ ks[i]? = some k := by
  induction h with
  | nil => intro i v e; simp at e
  | cons n t _ ih =>
    intro i v e
    cases i with
    | zero => exact ⟨n, t, (Option.some.inj e).symm, rfl⟩
    | succ i => exact ih e
inductive TwoJ1 (X : List Addr) (hp : Heap) (D : Addr) (nw : Nat) (ks : List Int) (done : List (List Int)) (r : List Int) (j : Nat) (h : Heap) : Prop
  | mk (ys : List Value) (c : Nat) (hr : Rows X h ys (done ++ (ks.take j).map fun k => r ++ [k])) (hl : ys.length + (nw - j) ≤ 10000) (hD : h.get? D = some (lo ys c)) (k : ∀ b o, b ∉ X → hp.get? b = some o → h.get? b = some o)
inductive TwoB1 (C : Addr) (x0 x1 : Str) (v : Value) (b : Option Value) (h : Heap) : Prop
  | mk (m : Str → Option Value) (hm : h.Ns C m) (h0 : m x0 = some v) (hk : ∀ k, b = some k → m x1 = some k)
section
variable {prog : Program} {w : World} {A : Around} {s : Shared} {E : Value → Shared → Prop} {env : Env}
noncomputable abbrev grow (ks : List Int) (r : List Int) : List (List Int) := ks.map fun k => r ++ [k]
theorem inner_two {elt i0 i1 : Expr} {x0 x1 : Str} {p0 p1 : Pos} {scope : Scope} {pos : Pos} {cenv : Env} {D C I1 lk : Addr} {ws : List Value} {ek : Nat} {ks : List Int} {done : List (List Int)} {r : List Int} {X : List Addr} {v : Value} {m : Str → Option Value} {ys : List Value} {c : Nat} {R : Result → Shared → Prop}
    (hh : A.handled = none) (hI : s.heap.IsListIter I1 lk 0) (hlk : s.heap.get? lk = some (lo ws ek)) (hne : lk ≠ I1) (hks : IntsAre ws ks) (hDI : D ≠ I1) (hCI : C ≠ I1) (hDC : D ≠ C) (hDl : D ≠ lk) (hCl : C ≠ lk) (hC : cenv.locals = C) (hkind : cenv.scope.kind = .function)
    (hX : ∀ b, b ∈ X ↔ b = D ∨ b = C ∨ b = I1)
    (hx1 : cenv.kindOf x1 = some .local) (hx01 : x0 ≠ x1) (hns : s.heap.Ns C m) (hm : m x0 = some v) (hrow : RowAt X s.heap v r) (hys : Rows X s.heap ys done) (hD : s.heap.get? D = some (lo ys c)) (hyl : ys.length + ws.length ≤ 10000)
    (helt : ∀ h tk m a vs e k t (Q : Value → Shared → Prop) (E : Value → Shared → Prop), h.Ns C m → m x0 = some (.ref a) → m x1 = some (.int k t) → h.get? a = some (lo vs e) → IntsAre vs r → (∀ h' tk' b vs', (∀ b o, h.get? b = some o → h'.get? b = some o) → h.get? b = none → h'.get? b = some (lo vs' 0) → IntsAre vs' (r ++ [k]) → Q (.ref b) { s with heap := h', toks := tk' }) → wpAny (model prog w) A (eval elt cenv) Q E { s with heap := h, toks := tk })
    (hR : ∀ ys h' tk m c, Rows X h' ys (done ++ grow ks r) → ys.length ≤ 10000 → h'.Ns C m → h'.get? D = some (lo ys c) → (∀ b o, b ∉ X → s.heap.get? b = some o → h'.get? b = some o) → R (.ok .next) { s with heap := h', toks := tk }) :
    codeAny (model prog w) A (.compLoop (.ListComp elt [⟨.Name x0 p0, i0, [], 0⟩, ⟨.Name x1 p1, i1, [], 0⟩] scope pos) 1 (.ref I1) (.ref D) cenv) R s := by
  have W := Walks.list (prog := prog) (w := w) (A := A) hh I1 lk hne ws.toArray
  rw [List.size_toArray] at W
  have hli : s.heap.IsList lk ws.toArray := ⟨_, hlk, rfl, _, rfl⟩
  have hDX : D ∈ X := (hX D).mpr (.inl rfl)
  have hCX : C ∈ X := (hX C).mpr (.inr (.inl rfl))
  have hIX : I1 ∈ X := (hX I1).mpr (.inr (.inr rfl))
  refine comp_gen (x := x1) (px := p1) (p0 := i1.pos) (BX := [C]) (b0 := none)
    (body := eval elt cenv >>= fun x => call (.builtin "list.append") [.ref D, x] >>= fun _ => pure ())
    (TwoJ1 X s.heap D ws.length ks done r)
    (TwoB1 C x0 x1 v) rfl (comp_eq21 ..) W ?hBf ⟨hI, hli⟩ ⟨m, hns, hm, fun v q => (nomatch q)⟩ ⟨ys, c, by simpa using hys, by lia, hD, fun b o _ e => e⟩ ?hBst ?hBset ?hJst ?turn ?done
  case hBf => intro b hb q; rw [List.mem_singleton.mp hb] at q; rcases List.mem_cons.mp q with q | q; exact hCI q; exact hCl (List.mem_singleton.mp q)
  case hBst => rintro b h h' ⟨m, hm, h0, hv⟩ hk; exact ⟨m, keepsNs hm fun o e => hk _ o (List.mem_singleton.mpr rfl) e, h0, hv⟩
  case hBset =>
    rintro s' b v' Q E ⟨m, hm, h0, _⟩ hQ
    refine wpAny_assign_Name (wpAny_storeName_local hx1 (hC ▸ hm) (fun h₂ hn₂ hs₂ => ?_) (by rw [hkind]; rfl))
    rw [hC] at hn₂ hs₂
    exact hQ h₂ _ (fun a o ha e => (hs₂.2 a fun q => ha (List.mem_singleton.mpr q)).trans e) ⟨_, hn₂, by simp [hx01, h0], fun v'' q => by rw [← Option.some.inj q]; simp⟩
  case hJst =>
    rintro i h h' ⟨ys, c, hrs, hle, hD, hk⟩ hk'
    exact ⟨ys, c, hrs.stab fun b o hb e => hk' b o (fun q => hb (by rw [List.mem_singleton.mp q]; exact hCX)) (fun q => hb (by rw [List.mem_singleton.mp q]; exact hIX)) e, hle, hk' _ _ (fun q => hDC (List.mem_singleton.mp q)) (fun q => hDI (List.mem_singleton.mp q)) hD,
      fun b o hb e => hk' b o (fun q => hb (by rw [List.mem_singleton.mp q]; exact hCX)) (fun q => hb (by rw [List.mem_singleton.mp q]; exact hIX)) (hk b o hb e)⟩
  case turn =>
    rintro j kv h tk hj hP ⟨ys, c, hrs, hle, hD, hk⟩ ⟨m1, hm1, h01, hv⟩ hst
    rw [List.getElem?_toArray] at hP
    obtain ⟨k, t, rfl, hkj⟩ := intAt hks hP
    obtain ⟨a, e, vs, rfl, ha, hg, hi⟩ := hrow
    refine wpAny_bind (helt h tk m1 a vs e k t _ _ hm1 h01 (hv _ rfl) (hk a _ ha hg) hi fun h' tk' b vs' hk' hbn hb hi' => ?_)
    refine wpAny_bind (append_at (s := { s with heap := h', toks := tk' }) (hk' _ _ hD) (fun h₅ hs₅ hget => ?_) (by rw [List.size_toArray, sizeLine_eq]; lia))
    have hbX : b ∉ X := fun q => by
      rcases (hX b).mp q with rfl | rfl | rfl
      · rw [hD] at hbn; cases hbn
      · obtain ⟨o, _, _, ho, _⟩ := hm1; rw [ho] at hbn; cases hbn
      · obtain ⟨o, ho, _⟩ := hst.1; rw [ho] at hbn; cases hbn
    have hbD : b ≠ D := fun q => hbX (q ▸ hDX)
    refine wpAny_pure ⟨h₅, tk', none, rfl, ⟨ys ++ [.ref b], c + 1, ?_, by rw [List.length_append, List.length_singleton]; lia, hget.trans (by rw [List.push_toArray]), fun b o hb e => (hs₅.2 b fun q => hb (q ▸ hDX)).trans (hk' b o (hk b o hb e))⟩,
      ⟨m1, keepsNs hm1 fun o e => (hs₅.2 _ (Ne.symm hDC)).trans (hk' _ o e), h01, fun v q => (nomatch q)⟩, fun b hb o e => (hs₅.2 b fun q => ?_).trans (hk' b o e)⟩
    · have e1 : (ks.take (j + 1)).map (fun k => r ++ [k]) = (ks.take j).map (fun k => r ++ [k]) ++ [r ++ [k]] := by rw [List.take_add_one, hkj]; simp
      rw [e1, ← List.append_assoc]
      refine Rows.snoc (hrs.stab fun b o hb e => (hs₅.2 b fun q => hb (q ▸ hDX)).trans (hk' b o e)) ⟨b, 0, vs', rfl, hbX, (hs₅.2 b hbD).trans hb, hi'⟩
    · rcases List.mem_cons.mp hb with hb | hb
      · exact hDI (q ▸ hb)
      · exact hDl (q ▸ List.mem_singleton.mp hb)
  case done =>
    rintro h tk b ⟨ys, c, hrs, hle, hD, hk⟩ ⟨m, hm, _⟩
    have : ks.take ws.length = ks := by rw [IntsAre.length hks]; exact List.take_length
    rw [this] at hrs
    exact hR ys h tk m c hrs (by lia) hm hD hk
end

inductive TwoJ0 (I N : Addr) (hp : Heap) (rows : List (List Int)) (ks : List Int) (i : Nat) (h : Heap) : Prop
  | mk (ys : List Value) (c : Nat) (hr : Rows [I, N, N + 1] h ys ((rows.take i).flatMap (grow ks))) (hl : ys.length ≤ i * 10) (hD : h.get? N = some (lo ys c)) (k : ∀ b o, b ≠ I → hp.get? b = some o → h.get? b = some o)
inductive TwoB0 (N : Addr) (x0 : Str) (b : Option Value) (h : Heap) : Prop
  | mk (m : Str → Option Value) (hm : h.Ns (N + 1) m) (hv : ∀ v, b = some v → m x0 = some v)
section
variable {prog : Program} {w : World} {A : Around} {s : Shared} {E : Value → Shared → Prop} {env : Env}
theorem comp_two {elt i0 i1 : Expr} {x0 x1 : Str} {p0 p1 : Pos} {scope : Scope} {cl : List (Str × Addr)} {pos : Pos} {I l0 lk : Addr} {vs0 ws : List Value} {e0 ek : Nat} {rows : List (List Int)} {ks : List Int} {RR : Value → Addr → Result → Shared → Prop}
    (hh : A.handled = none) (hm0 : A.mark none = A) (hI : s.heap.IsListIter I l0 0) (hl0 : s.heap.get? l0 = some (lo vs0 e0)) (hlk : s.heap.get? lk = some (lo ws ek)) (hne : l0 ≠ I) (hlkI : lk ≠ I)
    (hcell : ∀ y ∈ scope.names, y.2 ≠ .cell) (hkind : scope.kind = .function) (hx0 : scope.names.lookup x0 = some .local) (hx1 : scope.names.lookup x1 = some .local) (hx01 : x0 ≠ x1)
    (hrows : Rows [I] s.heap vs0 rows) (hks : IntsAre ws ks) (hsz : (vs0.length + 1) * 10 ≤ 9000) (hwz : ws.length ≤ 10)
    (hfold : ∀ c v, foldedSetIterable i1 (compEnvC scope cl c env) v = pure v)
    (heval : ∀ h tk (Q : Value → Shared → Prop) (E : Value → Shared → Prop), (∀ b o, b ≠ I → s.heap.get? b = some o → h.get? b = some o) → Q (.ref lk) { s with heap := h, toks := tk } → wpAny (model prog w) A (eval i1 (compEnvC scope cl (s.heap.objs.size + 1) env)) Q E { s with heap := h, toks := tk })
    (helt : ∀ h tk m a vs e r k t (Q : Value → Shared → Prop) (E : Value → Shared → Prop), h.Ns (s.heap.objs.size + 1) m → m x0 = some (.ref a) → m x1 = some (.int k t) → h.get? a = some (lo vs e) → IntsAre vs r → r ∈ rows → (∀ h' tk' b vs', (∀ b o, h.get? b = some o → h'.get? b = some o) → h.get? b = none → h'.get? b = some (lo vs' 0) → IntsAre vs' (r ++ [k]) → Q (.ref b) { s with heap := h', toks := tk' }) → wpAny (model prog w) A (eval elt (compEnvC scope cl (s.heap.objs.size + 1) env)) Q E { s with heap := h, toks := tk })
    (hR : ∀ ys h' tk m c, Rows [I, s.heap.objs.size, s.heap.objs.size + 1] h' ys (rows.flatMap (grow ks)) → h'.Ns (s.heap.objs.size + 1) m → h'.get? s.heap.objs.size = some (lo ys c) → (∀ b o, b ≠ I → s.heap.get? b = some o → h'.get? b = some o) → RR (.ref s.heap.objs.size) (s.heap.objs.size + 1) (.ok .next) { s with heap := h', toks := tk }) :
    wpAny (model prog w) A (newList []) (fun acc s₃ => wpAny (model prog w) A (newFunctionEnv scope env.globals cl [] env.qual none .none (some env)) (fun cenv s₄ =>
      codeAny (model prog w) A (.compStart (.ListComp elt [⟨.Name x0 p0, i0, [], 0⟩, ⟨.Name x1 p1, i1, [], 0⟩] scope pos) 0 (.ref I) acc { cenv with scope := relabel scope env }) (RR acc cenv.locals) s₄) E s₃) E s := by
  have W := Walks.list (prog := prog) (w := w) (A := A) hh I l0 hne vs0.toArray
  rw [List.size_toArray] at W
  have hIlt : I < s.heap.objs.size := by obtain ⟨o, ho, _⟩ := hI; exact Heap.lt_size ho
  have hl0lt : l0 < s.heap.objs.size := Heap.lt_size hl0
  have hlklt : lk < s.heap.objs.size := Heap.lt_size hlk
  refine wpAny_newObj_type (wpAny_newFunctionEnv hcell (by intro y hy; simp at hy) (fun h₁ hns₁ hsb₁ => ?_) hkind)
  dsimp only at hns₁ hsb₁ ⊢
  have hC : (s.heap.push { cls := Value.type "list", dict := none, data := Data.seq ([] : List Value).toArray }).objs.size = s.heap.objs.size + 1 := Heap.size_push ..
  rw [hC] at hns₁ hsb₁ ⊢
  generalize hN : s.heap.objs.size = N at *
  have hk1 : ∀ b o, s.heap.get? b = some o → h₁.get? b = some o := fun b o e => (hsb₁.2 b (Nat.ne_of_lt (Nat.lt_succ_of_lt (hN ▸ Heap.lt_size e)))).trans (Heap.get?_push_of_some _ (Heap.get?_push_of_some _ e))
  have hD1 : h₁.get? N = some (lo [] 0) := (hsb₁.2 _ (Nat.ne_of_lt (Nat.lt_succ_self _))).trans (Heap.get?_push_of_some _ (hN ▸ Heap.get?_push_size _ rfl))
  have hli : s.heap.IsList l0 vs0.toArray := ⟨_, hl0, rfl, _, rfl⟩
  have loop : codeAny (model prog w) A (.compLoop (.ListComp elt [⟨.Name x0 p0, i0, [], 0⟩, ⟨.Name x1 p1, i1, [], 0⟩] scope pos) 0 (.ref I) (.ref N) (compEnvC scope cl (N + 1) env)) (RR (.ref N) (N + 1)) { s with heap := h₁, toks := s.toks + ([] : List (Str × Value)).length } := by
    refine comp_gen (s := { s with heap := h₁, toks := s.toks + ([] : List (Str × Value)).length }) (x := x0) (px := p0) (p0 := i0.pos) (BX := [N + 1]) (b0 := none) (body := _)
      (TwoJ0 I N s.heap rows ks)
      (TwoB0 N x0) rfl (comp_eq20 ..) W ?hBf ⟨hI.at fun o e => hk1 _ o e, hli.at fun o e => hk1 _ o e⟩ ⟨_, hns₁, fun v q => (nomatch q)⟩ ⟨[], 0, ⟨rfl, fun i v r a _ => by simp at a⟩, Nat.zero_le _, hD1, fun b o _ e => hk1 b o e⟩ ?hBst ?hBset ?hJst ?turn ?done
    case hBf =>
      intro b hb q
      rw [List.mem_singleton.mp hb] at q
      rcases List.mem_cons.mp q with q | q
      · rw [← q] at hIlt; exact Nat.lt_irrefl _ (Nat.lt_of_succ_lt hIlt)
      · rw [← List.mem_singleton.mp q] at hl0lt; exact Nat.lt_irrefl _ (Nat.lt_of_succ_lt hl0lt)
    case hBst => rintro b h h' ⟨m, hm, hv⟩ hk; exact ⟨m, keepsNs hm fun o e => hk _ o (List.mem_singleton.mpr rfl) e, hv⟩
    case hBset =>
      rintro s' b v Q E ⟨m, hm, _⟩ hQ
      refine wpAny_assign_Name (wpAny_storeName_local (lookup_relabel_local hx0) hm (fun h₂ hn₂ hs₂ => ?_) (by simp [compEnvC, relabel, hkind]))
      exact hQ h₂ _ (fun a o ha e => (hs₂.2 a fun q => ha (List.mem_singleton.mpr q)).trans e) ⟨_, hn₂, fun v' q => by rw [← Option.some.inj q]; simp⟩
    case hJst =>
      rintro i h h' ⟨ys, c, hrs, hle, hD, hk⟩ hk'
      refine ⟨ys, c, hrs.stab fun b o hb e => hk' b o (fun q => hb (by rw [List.mem_singleton.mp q]; simp)) (fun q => hb (by rw [List.mem_singleton.mp q]; simp)) e, hle, hk' _ _ (fun q => Nat.ne_of_lt (Nat.lt_succ_self _) (List.mem_singleton.mp q)) (fun q => ?_) hD, fun b o hb e => hk' b o (fun q => ?_) (fun q => hb (List.mem_singleton.mp q)) (hk b o hb e)⟩
      · rw [← List.mem_singleton.mp q] at hIlt; exact Nat.lt_irrefl _ hIlt
      · have := Heap.lt_size e
        rw [hN, List.mem_singleton.mp q] at this
        exact Nat.lt_irrefl _ (Nat.lt_of_succ_lt this)
    case turn =>
      rintro i v h tk hi hP ⟨ys, c, hrs, hle, hD, hk⟩ ⟨m, hm, hv⟩ hst
      rw [List.getElem?_toArray] at hP
      have hir : i < rows.length := by rw [← hrows.1]; exact hi
      have hrow := hrows.2 i v rows[i] hP (List.getElem?_eq_getElem hir)
      refine wpAny_bind (heval h tk _ _ hk ?_)
      refine wpAny_bind (wpAny_standAt (wpAny_bind (wpAny_of_eq (hfold _ _) (wpAny_bind (wpAny_holding ?_)))))
      have hlkh : h.get? lk = some (lo ws ek) := hk _ _ hlkI hlk
      have hlkl : h.IsList lk ws.toArray := ⟨_, hlkh, rfl, _, rfl⟩
      refine wpAny_pyIter_list (s := { s with heap := h, toks := tk }) hlkl ?_
      have hI1 : (h.push { cls := .type "list_iterator", data := .fields #[.ref lk, .int 0 0] }).IsListIter h.objs.size lk 0 := ⟨_, Heap.get?_push_size _ rfl, rfl, rfl⟩
      have hkp : ∀ b o, h.get? b = some o → (h.push { cls := .type "list_iterator", data := .fields #[.ref lk, .int 0 0] }).get? b = some o := fun b o e => Heap.get?_push_of_some _ e
      have hCh : ∃ o, h.get? (N + 1) = some o := by obtain ⟨o, _, _, ho, _⟩ := hm; exact ⟨o, ho⟩
      have ne1 : ∀ b, (∃ o, h.get? b = some o) → b ≠ h.objs.size := fun b ⟨o, ho⟩ => Nat.ne_of_lt (Heap.lt_size ho)
      have hrow1 : RowAt [N, N + 1, h.objs.size] (h.push { cls := .type "list_iterator", data := .fields #[.ref lk, .int 0 0] }) v rows[i] := by
        obtain ⟨a, e, vs, e1, ha, hg, hi⟩ := hrow
        have haI : a ≠ I := fun q => ha (List.mem_singleton.mpr q)
        have halt : a < N := hN ▸ Heap.lt_size hg
        refine ⟨a, e, vs, e1, fun q => ?_, hkp _ _ (hk a _ haI hg), hi⟩
        rcases List.mem_cons.mp q with q | q
        · exact Nat.ne_of_lt halt q
        · rcases List.mem_cons.mp q with q | q
          · exact Nat.ne_of_lt (Nat.lt_succ_of_lt halt) q
          · exact ne1 a ⟨_, hk a _ haI hg⟩ (List.mem_singleton.mp q)
      have hys1 : Rows [N, N + 1, h.objs.size] (h.push { cls := .type "list_iterator", data := .fields #[.ref lk, .int 0 0] }) ys ((rows.take i).flatMap (grow ks)) := by
        refine Rows.stab (Rows.more hrs fun a ha ⟨vs, e, hg⟩ q => ?_) fun b o _ e => hkp b o e
        rcases List.mem_cons.mp q with q | q
        · exact ha (by rw [q]; simp)
        · rcases List.mem_cons.mp q with q | q
          · exact ha (by rw [q]; simp)
          · exact ne1 a ⟨_, hg⟩ (List.mem_singleton.mp q)
      have W1 := Walks.list (prog := prog) (w := w) (A := A) hh h.objs.size lk (ne1 lk ⟨_, hlkh⟩) ws.toArray
      refine wpAny_bind (wpAny_runOwn (h := none) ?_)
      rw [hm0]
      have loop1 : codeAny (model prog w) A (.compLoop (.ListComp elt [⟨.Name x0 p0, i0, [], 0⟩, ⟨.Name x1 p1, i1, [], 0⟩] scope pos) 1 (.ref h.objs.size) (.ref N) (compEnvC scope cl (N + 1) env))
          (fun r s' => match r with | .ok _ => GenQ s.gens s.drawn s.os [I, l0] (TwoJ0 I N s.heap rows ks (i + 1)) (TwoB0 N x0) h s' | .error _ => False) { s with heap := h.push { cls := .type "list_iterator", data := .fields #[.ref lk, .int 0 0] }, toks := tk } := by
        refine inner_two (s := { s with heap := h.push { cls := .type "list_iterator", data := .fields #[.ref lk, .int 0 0] }, toks := tk }) (X := [N, N + 1, h.objs.size]) (C := N + 1) hh hI1 (hkp _ _ hlkh) (ne1 lk ⟨_, hlkh⟩) hks (ne1 N ⟨_, hD⟩) (ne1 _ hCh) (Nat.ne_of_lt (Nat.lt_succ_self _))
          (Ne.symm (Nat.ne_of_lt hlklt)) (Ne.symm (Nat.ne_of_lt (Nat.lt_succ_of_lt hlklt))) rfl (by simp [compEnvC, relabel, hkind]) (by simp) (lookup_relabel_local hx1) hx01 (keepsNs hm fun o e => hkp _ o e) (hv v rfl) hrow1 hys1 (hkp _ _ hD) (by lia)
          (fun h tk m a vs e k t Q E b1 b2 b3 b4 b5 b6 => helt h tk m a vs e _ k t Q E b1 b2 b3 b4 b5 (List.getElem_mem hir) b6) fun ys' h' tk' m' c' q1 q2 q3 q4 q5 => ?_
        have hk5 : ∀ b o, b ≠ N → b ≠ N + 1 → h.get? b = some o → h'.get? b = some o := fun b o n1 n2 e => q5 b o (fun q => by
          rcases List.mem_cons.mp q with q | q
          · exact n1 q
          · rcases List.mem_cons.mp q with q | q
            · exact n2 q
            · exact ne1 b ⟨_, e⟩ (List.mem_singleton.mp q)) (hkp b o e)
        have hIh : h'.IsListIter I l0 (i + 1) := hst.1.at fun o e => hk5 I o (Nat.ne_of_lt hIlt) (Nat.ne_of_lt (Nat.lt_succ_of_lt hIlt)) e
        refine ⟨h', tk', none, rfl, ⟨ys', c', ?_, ?_, q4, fun b o nb e => hk5 b o (Nat.ne_of_lt (hN ▸ Heap.lt_size e)) (Nat.ne_of_lt (Nat.lt_succ_of_lt (hN ▸ Heap.lt_size e))) (hk b o nb e)⟩, ⟨m', q3, fun v q => (nomatch q)⟩, fun b hb o e => ?_⟩
        · have e1 : (rows.take (i + 1)).flatMap (grow ks) = (rows.take i).flatMap (grow ks) ++ grow ks rows[i] := by rw [List.take_add_one, List.getElem?_eq_getElem hir, Option.toList_some, List.flatMap_append, List.flatMap_singleton]
          rw [e1]
          refine Rows.more q1 fun a ha ⟨vs, e, hg⟩ q => ?_
          rcases List.mem_cons.mp q with q | q
          · obtain ⟨oI, hoI, hcI, _⟩ := hIh
            rw [q, hoI] at hg
            have := Option.some.inj hg
            rw [this] at hcI
            exact absurd (show Value.type "list" = Value.type "list_iterator" from hcI) (by decide)
          · exact ha (by rcases List.mem_cons.mp q with q | q; rw [q]; simp; rw [List.mem_singleton.mp q]; simp)
        · have e2 : ys'.length = ((rows.take i).flatMap (grow ks) ++ grow ks rows[i]).length := q1.1
          rw [List.length_append, ← hrs.1, List.length_map] at e2
          have e3 := IntsAre.length hks
          lia
        · rcases List.mem_cons.mp hb with rfl | hb
          · exact hk5 _ o (Nat.ne_of_lt hIlt) (Nat.ne_of_lt (Nat.lt_succ_of_lt hIlt)) e
          · rw [List.mem_singleton.mp hb] at e ⊢
            exact hk5 _ o (Nat.ne_of_lt hl0lt) (Nat.ne_of_lt (Nat.lt_succ_of_lt hl0lt)) e
      refine codeAny_mono (compStart_two loop1 (W1.self 0 _ _ _ ⟨hI1, hlkl.at fun o e => hkp _ o e⟩ loop1)) fun r s' hr => ?_
      cases r with
      | ok f => exact wpAny_pure hr
      | error e => exact hr.elim
    case done =>
      rintro h tk b ⟨ys, c, hrs, _, hD, hk⟩ ⟨m, hm, _⟩
      have : rows.take vs0.length = rows := by rw [hrows.1]; exact List.take_length
      rw [this] at hrs
      exact hR ys h tk m c hrs hm hD hk
  exact codeAny_compStart_list loop (W.self 0 _ _ _ ⟨hI.at fun o e => hk1 _ o e, hli.at fun o e => hk1 _ o e⟩ loop)
end

section
variable {prog : Program} {w : World} {A : Around} {s : Shared} {E : Value → Shared → Prop}
theorem addL_at {l b : Addr} {vs ws : List Value} {n k : Nat} {Q : Value → Shared → Prop} (ho : s.heap.get? l = some (lo vs n)) (ho2 : s.heap.get? b = some (lo ws k)) (hsz : vs.length + ws.length ≤ 10000)
    (h : Q (.ref s.heap.objs.size) { s with heap := s.heap.push (lo (vs ++ ws) 0) }) : wpAny (model prog w) A (binaryOp .Add (.ref l) (.ref b)) Q E s := by
  refine concat_meets ⟨_, ho, rfl⟩ ⟨_, ho2, rfl⟩ noFill_list_add seq_list_add PySem.F.slot_list_add PySem.F.entry_list_add (PySem.F.args_list_add_2 _ _) (list_addW l b vs.toArray ws.toArray n k none none #[] #[] (by rw [List.size_toArray, List.size_toArray, sizeLine_eq]; lia)) ⟨ho, ho2, ?_⟩
  rw [show vs.toArray ++ ws.toArray = (vs ++ ws).toArray by simp]
  exact h
end

section
variable {prog : Program} {w : World} {A : Around} {s : Shared} {E : Value → Shared → Prop} {env : Env}
/-- what a clause's source owes -/
structure Src (prog : Program) (w : World) (A : Around) (env : Env) (scope : Scope) (cl : List (Str × Addr)) (x : Str) (ifs : List Expr) (elt : Expr) (wr : List Addr) (n : Nat) (P : Nat → Value → Prop) (St : Nat → Heap → Prop) (J : Nat → List Value → Heap → Prop) (s : Shared) : Prop where
  zero : ∀ h', (∀ b o, s.heap.get? b = some o → h'.get? b = some o) → J 0 [] h'
  stab : ∀ i ys h h', J i ys h → (∀ b o, b ∉ wr → b ≠ s.heap.objs.size → b ≠ s.heap.objs.size + 1 → h.get? b = some o → h'.get? b = some o) → J i ys h'
  turn : ∀ i v ys h tk m, i < n → P i v → J i ys h → h.Ns (s.heap.objs.size + 1) m → m x = some v → (∃ o, h.get? s.heap.objs.size = some o) → (∀ b o, b ∉ wr → s.heap.get? b = some o → h.get? b = some o) → St (i + 1) h →
      wpAny (model prog w) A (testsOf ifs (compEnvC scope cl (s.heap.objs.size + 1) env)) (fun ok s₃ => if ok = true then
          wpAny (model prog w) A (eval elt (compEnvC scope cl (s.heap.objs.size + 1) env)) (fun y s₄ => StepQ s.gens s.drawn s.os h (J (i + 1) (ys ++ [y])) s₄) (fun _ _ => False) s₃
        else StepQ s.gens s.drawn s.os h (J (i + 1) ys) s₃) (fun _ _ => False) { s with heap := h, toks := tk }

/-- what a comprehension's source gives -/
inductive CompGo (prog : Program) (w : World) (A : Around) (env : Env) (scope : Scope) (cl : List (Str × Addr)) (x : Str) (ifs : List Expr) (elt : Expr) (Q : Value → Shared → Prop) (it : Value) (s₂ : Shared) : Prop
  | mk (I : Addr) (fp wr : List Addr) (n : Nat) (P : Nat → Value → Prop) (St : Nat → Heap → Prop) (J : Nat → List Value → Heap → Prop) (e : it = .ref I) (W : Walks prog w A I fp wr n P St) (hn : n < 10000) (h0 : St 0 s₂.heap) (hfp : ∀ b ∈ fp, b < s₂.heap.objs.size)
      (src : Src prog w A env scope cl x ifs elt wr n P St J s₂)
      (done : ∀ ys h' tk c, J n ys h' → h'.get? s₂.heap.objs.size = some (lo ys c) → (∀ b o, b ∉ wr → s₂.heap.get? b = some o → h'.get? b = some o) → Q (.ref s₂.heap.objs.size) { s₂ with heap := h', toks := tk })
theorem comp_eval {elt iter : Expr} {x : Str} {px : Pos} {ifs : List Expr} {scope : Scope} {cl : List (Str × Addr)} {pos : Pos} {Q : Value → Shared → Prop}
    (hclos : closureFor scope env = pure cl) (hcell : ∀ y ∈ scope.names, y.2 ≠ .cell) (hkind : scope.kind = .function)
    (hnames : ∀ y ∈ scope.names, y.2 = .local → scope.names.lookup y.1 = some .local) (hx : scope.names.lookup x = some .local)
    (h : wpAny (model prog w) A (eval iter env) (fun xv s₁ => wpAny (model prog w) A (pyIter xv) (CompGo prog w A env scope cl x ifs elt Q) E s₁) E s)
    (hs : ∀ x, foldedSetIterable iter env x = pure x := by intro _; rfl) :
    wpAny (model prog w) A (eval (.ListComp elt [⟨.Name x px, iter, ifs, 0⟩] scope pos) env) Q E s := by
  rw [eval_ListComp]
  refine wpAny_comprehension_free (use := none) rfl hs hclos hkind hnames (wpAny_mono h (fun xv s₁ h₁ => wpAny_mono h₁ (fun it s₂ h₂ => ?_) fun _ _ e => e) fun _ _ e => e)
  obtain ⟨I, fp, wr, n, P, St, J, rfl, W, hn, hst, hfp, S, hQ⟩ := h₂
  refine comp_core (RR := fun acc C => compPost (model prog w) A E none Q acc C) J W hn hcell hkind hx hst hfp S.zero S.stab S.turn fun ys h' tk m c hJ hns hD hk => ?_
  refine ⟨m, hns, fun h'' hs'' => hQ ys h'' tk c (S.stab _ _ _ _ hJ fun b o _ _ hb e => (hs''.2 b hb).trans e) ((hs''.2 _ (Nat.ne_of_lt (Nat.lt_succ_self _))).trans hD) fun b o hb e => (hs''.2 b (Nat.ne_of_lt (Nat.lt_succ_of_lt (Heap.lt_size e)))).trans (hk b o hb e)⟩

inductive CompGoC (prog : Program) (w : World) (A : Around) (env : Env) (scope : Scope) (cl : List (Str × Addr)) (x : Str) (ifs : List Expr) (elt : Expr) (g : Heap) (m : Str → Option Value) (y : Str) (Q : Flow → Shared → Prop) (it : Value) (s₂ : Shared) : Prop
  | mk (I : Addr) (fp wr : List Addr) (n : Nat) (P : Nat → Value → Prop) (St : Nat → Heap → Prop) (J : Nat → List Value → Heap → Prop) (c0 : it = .ref I) (c1 : Walks prog w A I fp wr n P St) (c2 : n < 10000) (c3 : St 0 s₂.heap) (c4 : (∀ b ∈ fp, b < s₂.heap.objs.size)) (c5 : env.locals ∉ wr) (c6 : Fr g env.locals s₂.heap m) (c7 : (∀ b ∈ wr, g.get? b = none)) (c8 : (∀ h', (∀ b o, s₂.heap.get? b = some o → h'.get? b = some o) → J 0 [] h')) (c9 : (∀ i ys h h', J i ys h → (∀ b o, b ∉ wr → b ≠ s₂.heap.objs.size → b ≠ s₂.heap.objs.size + 1 → b ≠ s₂.heap.objs.size + 1 + 1 → b ≠ env.locals → h.get? b = some o → h'.get? b = some o) → J i ys h')) (c10 : (∀ i v ys h tk m, i < n → P i v → J i ys h → h.IsCell (s₂.heap.objs.size + 1 + 1) (some v) → h.Ns (s₂.heap.objs.size + 1) m → (∃ o, h.get? s₂.heap.objs.size = some o) → (∀ b o, b ∉ wr → s₂.heap.get? b = some o → h.get? b = some o) →
      wpAny (model prog w) A (testsOf ifs (compEnvC scope ((x, s₂.heap.objs.size + 1 + 1) :: cl) (s₂.heap.objs.size + 1) env)) (fun ok s₃ => if ok = true then
          wpAny (model prog w) A (eval elt (compEnvC scope ((x, s₂.heap.objs.size + 1 + 1) :: cl) (s₂.heap.objs.size + 1) env)) (fun y s₄ => StepQ s₂.gens s₂.drawn s₂.os h (J (i + 1) (ys ++ [y])) s₄) (fun _ _ => False) s₃
        else StepQ s₂.gens s₂.drawn s₂.os h (J (i + 1) ys) s₃) (fun _ _ => False) { s₂ with heap := h, toks := tk })) (c11 : (∀ ys h' tk c, J n ys h' → h'.get? s₂.heap.objs.size = some (lo ys c) → Fr g env.locals h' (fun z => if z = y then some (.ref s₂.heap.objs.size) else m z) → (∀ b o, b ∉ wr → b ≠ env.locals → s₂.heap.get? b = some o → h'.get? b = some o) → Q .next { s₂ with heap := h', toks := tk }))
theorem comp_evalC {elt iter : Expr} {x : Str} {px : Pos} {ifs : List Expr} {scope : Scope} {cl : List (Str × Addr)} {pos : Pos} {y : Str} {py spos : Pos} {d0 r0 : Str} {Q : Flow → Shared → Prop}
    (hsw : swapsWith (.ListComp elt [⟨.Name x px, iter, ifs, 0⟩] scope pos) (some (.Name y py)) spos.line env = pure true)
    (hclos : closureFor scope env = pure cl) (hnm : scope.names = [(d0, .local), (x, .cell), (r0, .free)]) (hkind : scope.kind = .function)
    (hnames : ∀ y ∈ scope.names, y.2 = .local → scope.names.lookup y.1 = some .local) (hx : (relabel scope env).names.lookup x = some .cell) (hy : env.kindOf y = some .local) (hek : env.scope.kind = .function)
    {g : Heap} {m : Str → Option Value}
    (h : wpAny (model prog w) A (eval iter env) (fun xv s₁ => wpAny (model prog w) A (pyIter xv) (CompGoC prog w A env scope cl x ifs elt g m y Q) E s₁) E s)
    (hs : ∀ x, foldedSetIterable iter env x = pure x := by intro _; rfl) :
    wpAny (model prog w) A (exec (.Assign [.Name y py] (.ListComp elt [⟨.Name x px, iter, ifs, 0⟩] scope pos) spos) env) Q E s := by
  rw [exec_Assign_Name_used _ _ _ _ hsw]
  refine wpAny_bind (wpAny_standAt (wpAny_bind ?_))
  show wpAny _ A (do let _ ← comprehension (.ListComp elt [⟨.Name x px, iter, ifs, 0⟩] scope pos) scope env _ (newList []) false (eval iter env) (some (assign (.Name y py) env))) _ _ s
  refine wpAny_bind (wpAny_mono (wpAny_comprehension_free (use := some (assign (.Name y py) env)) (Q := fun _ s' => Q .next s') rfl hs hclos hkind hnames
    (wpAny_mono h (fun xv s₁ h₁ => wpAny_mono h₁ (fun it s₂ h₂ => ?_) fun _ _ e => e) fun _ _ e => e)) (fun _ s' hq => wpAny_pure (wpAny_pure hq)) fun _ _ e => e)
  obtain ⟨I, fp, wr, n, P, St, J, rfl, W, hn, hst, hfp, hLw, F, hwr, hz, hstab, hturn, hQ⟩ := h₂
  have hLlt : env.locals < s₂.heap.objs.size := F.ns.lt
  refine comp_cell (RR := fun acc C => compPost (model prog w) A E (some (assign (.Name y py) env)) (fun _ s' => Q .next s') acc C) J W hn hnm hkind hx hst hfp hz (fun i ys h h' hJ hk => hstab i ys h h' hJ fun b o b1 b2 b3 b4 _ e => hk b o b1 b2 b3 b4 e) hturn fun ys h' tk m' c hJ hns hD hk => ?_
  show wpAny _ A (assign (.Name y py) env (.ref s₂.heap.objs.size)) _ _ _
  have F' : Fr g env.locals h' m := ⟨keepsNs F.ns fun o e => hk _ o hLw e, fun b o e => hk b o (fun q => by rw [hwr b q] at e; cases e) (F.keep b o e), F.above⟩
  refine wpAny_assign_Name (wpAny_storeName_local hy F'.ns (fun h₂ hn₂ hs₂ => ?_) (by rw [hek]; rfl))
  have hLC : env.locals ≠ s₂.heap.objs.size + 1 := Nat.ne_of_lt (Nat.lt_succ_of_lt hLlt)
  have F₂ := F'.set hn₂ hs₂
  refine ⟨m', hns.sameBut hs₂ (Ne.symm hLC), fun h₃ hs₃ => ?_⟩
  have F₃ : Fr g env.locals h₃ (fun z => if z = y then some (.ref s₂.heap.objs.size) else m z) := ⟨F₂.ns.sameBut hs₃ hLC, fun b o e => (hs₃.2 b (fun q => by
    have h1 := Heap.lt_size (F.keep b o e)
    rw [q] at h1
    exact Nat.lt_irrefl _ (Nat.lt_of_succ_lt h1))).trans (F₂.keep b o e), F.above⟩
  refine hQ ys h₃ _ c (hstab _ _ _ _ hJ fun b o b1 b2 b3 b4 b5 e => (hs₃.2 b b3).trans ((hs₂.2 b b5).trans e)) ((hs₃.2 _ (Nat.ne_of_lt (Nat.lt_succ_self _))).trans ((hs₂.2 _ (Ne.symm (Nat.ne_of_lt hLlt))).trans hD)) F₃ fun b o b1 b2 e => (hs₃.2 b (Nat.ne_of_lt (Nat.lt_succ_of_lt (Heap.lt_size e)))).trans ((hs₂.2 b b2).trans (hk b o b1 e))
end

section
variable {prog : Program} {w : World} {A : Around} {s : Shared} {E : Value → Shared → Prop} {env : Env}
/-- y = [elt for x0 in l0 for x1 in lk], y local -/
theorem comp_twoA {elt i1 : Expr} {x0 x1 n0 y : Str} {p0 p1 pn py spos : Pos} {scope : Scope} {cl : List (Str × Addr)} {pos : Pos} {l0 lk : Addr} {vs0 ws : List Value} {e0 ek : Nat} {rows : List (List Int)} {ks : List Int} {Q : Flow → Shared → Prop} {g : Heap} {m : Str → Option Value}
    (hsw : swapsWith (.ListComp elt [⟨.Name x0 p0, .Name n0 pn, [], 0⟩, ⟨.Name x1 p1, i1, [], 0⟩] scope pos) (some (.Name y py)) spos.line env = pure true)
    (hclos : closureFor scope env = pure cl) (hh : A.handled = none) (hm0 : A.mark none = A) (F : Fr g env.locals s.heap m) (hl0 : s.heap.get? l0 = some (lo vs0 e0)) (hlk : s.heap.get? lk = some (lo ws ek))
    (hload : ∀ (Q : Value → Shared → Prop) (E : Value → Shared → Prop), Q (.ref l0) s → wpAny (model prog w) A (eval (.Name n0 pn) env) Q E s)
    (hcell : ∀ y ∈ scope.names, y.2 ≠ .cell) (hkind : scope.kind = .function) (hnames : ∀ y ∈ scope.names, y.2 = .local → scope.names.lookup y.1 = some .local) (hx0 : scope.names.lookup x0 = some .local) (hx1 : scope.names.lookup x1 = some .local) (hx01 : x0 ≠ x1)
    (hy : env.kindOf y = some .local) (hek : env.scope.kind = .function)
    (hrows : Rows [env.locals] s.heap vs0 rows) (hks : IntsAre ws ks) (hsz : (vs0.length + 1) * 10 ≤ 9000) (hwz : ws.length ≤ 10)
    (hfold : ∀ c v, foldedSetIterable i1 (compEnvC scope cl c env) v = pure v)
    (heval : ∀ C h tk (Q : Value → Shared → Prop) (E : Value → Shared → Prop), (∀ b o, s.heap.get? b = some o → h.get? b = some o) → Q (.ref lk) { s with heap := h, toks := tk } → wpAny (model prog w) A (eval i1 (compEnvC scope cl C env)) Q E { s with heap := h, toks := tk })
    (helt : ∀ C h tk m a vs e r k t (Q : Value → Shared → Prop) (E : Value → Shared → Prop), h.Ns C m → m x0 = some (.ref a) → m x1 = some (.int k t) → h.get? a = some (lo vs e) → IntsAre vs r → r ∈ rows → (∀ h' tk' b vs', (∀ b o, h.get? b = some o → h'.get? b = some o) → h.get? b = none → h'.get? b = some (lo vs' 0) → IntsAre vs' (r ++ [k]) → Q (.ref b) { s with heap := h', toks := tk' }) → wpAny (model prog w) A (eval elt (compEnvC scope cl C env)) Q E { s with heap := h, toks := tk })
    (hQ : ∀ D ys h' tk c, s.heap.get? D = none → Rows [env.locals] h' ys (rows.flatMap (grow ks)) → h'.get? D = some (lo ys c) → Fr g env.locals h' (fun z => if z = y then some (.ref D) else m z) → (∀ b o, b ≠ env.locals → s.heap.get? b = some o → h'.get? b = some o) → Q .next { s with heap := h', toks := tk })
    (hs : ∀ x, foldedSetIterable (.Name n0 pn) env x = pure x := by intro _; rfl) :
    wpAny (model prog w) A (exec (.Assign [.Name y py] (.ListComp elt [⟨.Name x0 p0, .Name n0 pn, [], 0⟩, ⟨.Name x1 p1, i1, [], 0⟩] scope pos) spos) env) Q E s := by
  rw [exec_Assign_Name_used _ _ _ _ hsw]
  refine wpAny_bind (wpAny_standAt (wpAny_bind ?_))
  show wpAny _ A (do let _ ← comprehension (.ListComp elt [⟨.Name x0 p0, .Name n0 pn, [], 0⟩, ⟨.Name x1 p1, i1, [], 0⟩] scope pos) scope env _ (newList []) false (eval (.Name n0 pn) env) (some (assign (.Name y py) env))) _ _ s
  refine wpAny_bind (wpAny_mono (wpAny_comprehension_free (use := some (assign (.Name y py) env)) (Q := fun _ s' => Q .next s') rfl hs hclos hkind hnames (hload _ _ ?_)) (fun _ s' hq => wpAny_pure (wpAny_pure hq)) fun _ _ e => e)
  refine wpAny_pyIter_list (⟨_, hl0, rfl, _, rfl⟩ : s.heap.IsList l0 vs0.toArray) ?_
  generalize hh1 : s.heap.push { cls := .type "list_iterator", data := .fields #[.ref l0, .int 0 0] } = h1
  have hk1 : ∀ b o, s.heap.get? b = some o → h1.get? b = some o := fun b o e => hh1 ▸ Heap.get?_push_of_some _ e
  have hI : h1.IsListIter s.heap.objs.size l0 0 := hh1 ▸ ⟨_, Heap.get?_push_size _ rfl, rfl, rfl⟩
  have hs1 : h1.objs.size = s.heap.objs.size + 1 := by rw [← hh1, Heap.size_push]
  have ne : ∀ b o, s.heap.get? b = some o → b ≠ s.heap.objs.size := fun b o e => Nat.ne_of_lt (Heap.lt_size e)
  have hLlt : env.locals < s.heap.objs.size := F.ns.lt
  refine comp_two (s := { s with heap := h1 }) (RR := fun acc C => compPost (model prog w) A E (some (assign (.Name y py) env)) (fun _ s' => Q .next s') acc C) hh hm0 hI (hk1 _ _ hl0) (hk1 _ _ hlk) (ne _ _ hl0) (ne _ _ hlk) hcell hkind hx0 hx1 hx01 ?rows hks hsz hwz hfold
    (fun h tk Q E hk hq => heval _ h tk Q E (fun b o e => hk b o (ne b o e) (hk1 b o e)) hq) (fun h tk m a vs e r k t Q E a1 a2 a3 a4 a5 a6 a7 => helt _ h tk m a vs e r k t Q E a1 a2 a3 a4 a5 a6 a7) ?fin
  case rows =>
    refine ⟨hrows.1, fun i v r a b => ?_⟩
    obtain ⟨a', e, vs, e1, ha, hg, hi⟩ := hrows.2 i v r a b
    exact ⟨a', e, vs, e1, fun q => ne _ _ hg (List.mem_singleton.mp q), hk1 _ _ hg, hi⟩
  case fin =>
    intro ys h' tk m' c hrs hns hD hk
    dsimp only at hrs hns hD hk
    have hkeep : ∀ b o, s.heap.get? b = some o → h'.get? b = some o := fun b o e => hk b o (ne b o e) (hk1 b o e)
    have F' : Fr g env.locals h' m := ⟨keepsNs F.ns fun o e => hkeep _ o e, fun b o e => hkeep b o (F.keep b o e), F.above⟩
    show wpAny _ A (assign (.Name y py) env (.ref h1.objs.size)) _ _ _
    refine wpAny_assign_Name (wpAny_storeName_local hy F'.ns (fun h₂ hn₂ hs₂ => ?_) (by rw [hek]; rfl))
    have hLD : env.locals ≠ h1.objs.size := Nat.ne_of_lt (by rw [hs1]; exact Nat.lt_succ_of_lt hLlt)
    have hLC : env.locals ≠ h1.objs.size + 1 := Nat.ne_of_lt (by rw [hs1]; exact Nat.lt_succ_of_lt (Nat.lt_succ_of_lt hLlt))
    have F₂ := F'.set hn₂ hs₂
    refine ⟨m', hns.sameBut hs₂ (Ne.symm hLC), fun h₃ hs₃ => ?_⟩
    have neC : ∀ b o, s.heap.get? b = some o → b ≠ h1.objs.size + 1 := fun b o e => Nat.ne_of_lt (by rw [hs1]; exact Nat.lt_succ_of_lt (Nat.lt_succ_of_lt (Heap.lt_size e)))
    have F₃ : Fr g env.locals h₃ (fun z => if z = y then some (.ref h1.objs.size) else m z) := ⟨F₂.ns.sameBut hs₃ hLC, fun b o e => (hs₃.2 b (neC b o (F.keep b o e))).trans (F₂.keep b o e), F.above⟩
    refine hQ h1.objs.size ys h₃ _ c (Heap.get?_none_of_le (by rw [hs1]; exact Nat.le_succ _)) ⟨hrs.1, fun i v r a b => ?_⟩ ((hs₃.2 _ (Nat.ne_of_lt (Nat.lt_succ_self _))).trans ((hs₂.2 _ (Ne.symm hLD)).trans hD)) F₃ fun b o hb e => (hs₃.2 b (neC b o e)).trans ((hs₂.2 b hb).trans (hkeep b o e))
    obtain ⟨a', e, vs, e1, ha, hg, hi⟩ := hrs.2 i v r a b
    have hC' : a' ≠ h1.objs.size + 1 := fun q => ha (by rw [q]; simp)
    have hL' : a' ≠ env.locals := fun q => by
      obtain ⟨o, es, ep, ho, hd, _⟩ := F'.ns
      rw [q, ho] at hg
      rw [Option.some.inj hg] at hd
      exact absurd hd (by simp [lo])
    exact ⟨a', e, vs, e1, fun q => hL' (List.mem_singleton.mp q), (hs₃.2 _ hC').trans ((hs₂.2 _ hL').trans hg), hi⟩
end

theorem enterC {prog : Program} {w : World} {A : Around} {s : Shared} {mg mb : Str → Option Value} {R : Result → Shared → Prop} {name qual : Str} {params : Arguments} {body : List Stmt} {scope : Scope}
    {dV kV doc pm cdv ct oc : Value} {an od : Option Addr} {osl : Array (Option Value)} {f : Addr} {vals : List Value} {binds : List (Str × Value)}
    (S : Site w mg mb s.heap)
    (ho : (KK w).lookup f = some ⟨oc, od, .func (fnOf name qual params body scope dV kV doc pm an cdv ct), osl⟩) (hcd : codeIn (KK w) cdv qual = true) (hroom : A.depth < recursionLimit)
    (hbind : bindArgs (fnOf name qual params body scope dV kV doc pm an cdv ct) ⟨vals, []⟩ = pure binds)
    (hkind : ∀ n, ∀ x ∈ binds, scope.names.lookup x.1 = some .local ∨ (scope.names.lookup x.1 = some .cell ∧ ((cellsFrom n scope.names []).lookup x.1).isSome = true))
    (h : ∀ h₁ tk, Fr s.heap s.heap.objs.size h₁ (bindL (envOfC qual scope s.heap.objs.size f cdv).kindOf binds fun _ => none) →
      (∀ n c, (cellsFrom (s.heap.objs.size + 1) scope.names []).lookup n = some c → h₁.IsCell c (bindC (envOfC qual scope s.heap.objs.size f cdv).kindOf binds (fun _ => none) n)) →
      wpAny (model prog w) (A.deeper (envOfC qual scope s.heap.objs.size f cdv)) (execs body (envOfC qual scope s.heap.objs.size f cdv))
        (fun fl s' => R (.ok (.ret (match fl with | .ret v => v | _ => .none))) s') (fun _ _ => False)
        { s with heap := h₁, toks := tk })
    (hco : scope.isCoroutine = false := by rfl) (hgen : scope.isGenerator = false := by rfl) (hk : scope.kind = .function := by rfl) :
    codeAny (model prog w) A (.call (.ref f) ⟨vals, []⟩) R s := by
  refine codeAny_call_cells (fd := fnOf name qual params body scope dV kV doc pm an cdv ct) (body := body) (binds := binds) hroom (S.X _ _ ho) rfl S.T.nolimit (codeRec_of S.X hcd) rfl hbind rfl (hkind _) (fun s₁ x => ?_) hco hgen hk
  obtain ⟨h₁, tk, rfl⟩ := x.toInCall.same
  exact wpAny_mono (h h₁ tk ⟨x.toInCall.ns, x.toInCall.keep, Nat.le_refl _⟩ x.cell) (fun _ _ x => x) fun _ _ x => x.elim
theorem enterCX {prog : Program} {w : World} {A : Around} {s : Shared} {mg mb : Str → Option Value} {R : Result → Shared → Prop} {name qual : Str} {params : Arguments} {body : List Stmt} {scope : Scope}
    {dV kV doc pm cdv ct oc : Value} {an od : Option Addr} {osl : Array (Option Value)} {f : Addr} {vals : List Value} {binds : List (Str × Value)}
    (S : Site w mg mb s.heap)
    (ho : (KK w).lookup f = some ⟨oc, od, .func (fnOf name qual params body scope dV kV doc pm an cdv ct), osl⟩) (hcd : codeIn (KK w) cdv qual = true) (hroom : A.depth < recursionLimit)
    (hbind : bindArgs (fnOf name qual params body scope dV kV doc pm an cdv ct) ⟨vals, []⟩ = pure binds)
    (hkind : ∀ n, ∀ x ∈ binds, scope.names.lookup x.1 = some .local ∨ (scope.names.lookup x.1 = some .cell ∧ ((cellsFrom n scope.names []).lookup x.1).isSome = true))
    (h : ∀ (h₁ : Heap) (A' : Around) (m : Str → Option Value) (tk : Nat) (T : Flow → Shared → Prop), A'.depth = A.depth + 1 → A'.units = A.units + 3 → A'.handled = A.handled → Fr s.heap s.heap.objs.size h₁ m →
      (∀ n c, (cellsFrom (s.heap.objs.size + 1) scope.names []).lookup n = some c → h₁.IsCell c (bindC (envOfC qual scope s.heap.objs.size f cdv).kindOf binds (fun _ => none) n)) →
      (∀ v s', R (.ok (.ret v)) s' → T (.ret v) s') →
      wpAny (model prog w) A' (execs body (envOfC qual scope s.heap.objs.size f cdv)) T (fun _ _ => False) ⟨h₁, s.gens, s.drawn, tk, s.os⟩)
    (hco : scope.isCoroutine = false := by rfl) (hgen : scope.isGenerator = false := by rfl) (hk : scope.kind = .function := by rfl) :
    codeAny (model prog w) A (.call (.ref f) ⟨vals, []⟩) R s :=
  enterC S ho hcd hroom hbind hkind (fun h₁ tk F hc => h h₁ _ _ tk _ rfl rfl rfl F hc fun _ _ x => x) hco hgen hk
theorem mark_none (A : Around) : A.mark none = A := rfl

noncomputable def bits (r : Nat) : List Nat := [r / 4, r / 2, r, r / 8]
noncomputable def bitOn (r k : Nat) : Bool := (bits r).getD k 0 % 2 == 1
noncomputable def might (r n : Nat) : List Nat := (List.range n).filter (bitOn r)
theorem bits_eq : ∀ (r : Fin 16) (k : Fin 4), ((([(r.val : Int).fdiv 4, (r.val : Int).fdiv 2, (r.val : Int), (r.val : Int).fdiv 8] : List Int).getD k.val 0).fmod 2 == 1) = bitOn r.val k.val := by decide
section
variable {prog : Program} {w : World} {M : Model} {A : Around} {E : Value → Shared → Prop} {hp : Heap} {gs : Array GenState} {dr : Drawn} {tk : Tok} {os : OsState}
theorem ldCe {env : Env} {x : Str} {pos : Pos} {c : Addr} {v : Value} {Q : Value → Shared → Prop} (hc : env.cells.lookup x = some c) (hv : hp.IsCell c (some v)) (h : Q v ⟨hp, gs, dr, tk, os⟩)
    (hk : env.scope.kind = .function := by rfl) (hl : env.kindOf x = some .cell := by rfl) (hd : (x == ("__debug__" : Str)) = false := by decide) :
    wpAny M A (eval (.Name x pos) env) Q E ⟨hp, gs, dr, tk, os⟩ := wpAny_Name (wpAny_loadName_cell hk hl hc hv h) hd
theorem ldNs {env : Env} {x : Str} {pos : Pos} {C : Addr} {m : Str → Option Value} {v : Value} {Q : Value → Shared → Prop} (hn : hp.Ns C m) (hv : m x = some v) (h : Q v ⟨hp, gs, dr, tk, os⟩)
    (hC : env.locals = C := by rfl) (hk : env.scope.kind = .function := by rfl) (hl : env.kindOf x = some .local := by rfl) (hd : (x == ("__debug__" : Str)) = false := by decide) :
    wpAny M A (eval (.Name x pos) env) Q E ⟨hp, gs, dr, tk, os⟩ := wpAny_Name (wpAny_loadName_local hk hl (hC ▸ hn) hv h) hd
theorem divF {a b : Int} {t u : Tok} {Q : Value → Shared → Prop} (h : ∀ t' tk', Q (.int (a.fdiv b) t') ⟨hp, gs, dr, tk', os⟩) (hb : b ≠ 0) (hp' : Builtin.divisionGoesByPylong a b = false) : wpAny (model prog w) A (binaryOp .FloorDiv (.int a t) (.int b u)) Q E ⟨hp, gs, dr, tk, os⟩ := floordiv_int hb (h _ _) (.inl hp')
theorem modF {a b : Int} {t u : Tok} {Q : Value → Shared → Prop} (h : ∀ t' tk', Q (.int (a.fmod b) t') ⟨hp, gs, dr, tk', os⟩) (hb : b ≠ 0) : wpAny (model prog w) A (binaryOp .Mod (.int a t) (.int b u)) Q E ⟨hp, gs, dr, tk, os⟩ := mod_int' hb (h _ _)
theorem newO {vs : List Value} {Q : Value → Shared → Prop} (hsz : vs.length ≤ 100000) (h : ∀ h' l, (∀ b o, hp.get? b = some o → h'.get? b = some o) → h'.get? l = some (lo vs 0) → hp.get? l = none → Q (.ref l) ⟨h', gs, dr, tk, os⟩) :
    wpAny M A (newList vs) Q E ⟨hp, gs, dr, tk, os⟩ :=
  wpAny_newObj_type (h _ _ (fun b o e => Heap.get?_push_of_some _ e) (Heap.get?_push_size _ rfl) (Heap.get?_none_of_le (Nat.le_refl _))) (by show vs.toArray.size ≤ sizeLine; rw [List.size_toArray, sizeLine_eq]; lia)
/-- the test of the first comprehension -/
theorem might_test {env : Env} {pk p1 p2 p3 p4 q1 q2 q3 q4 q5 q6 q7 q8 q9 qa qb qc : Pos} {c C : Addr} {r k : Nat} {t tr : Tok} {m : Str → Option Value} {Q : Bool → Shared → Prop} (hr : r < 16) (hk : k < 4)
    (hcell : env.cells.lookup (Str.ofString "rights") = some c) (hcv : hp.IsCell c (some (.int r tr))) (hns : hp.Ns C m) (hm : m (Str.ofString "k") = some (.int k t)) (hC : env.locals = C) (hkf : env.scope.kind = .function) (hl1 : env.kindOf (Str.ofString "rights") = some .cell) (hl2 : env.kindOf (Str.ofString "k") = some .local)
    (h : ∀ h' tk', (∀ b o, hp.get? b = some o → h'.get? b = some o) → Q (bitOn r k) ⟨h', gs, dr, tk', os⟩) :
    wpAny (model prog w) A (testsOf [.Compare (.BinOp (.Subscript (.List [.BinOp (.Name (Str.ofString "rights") p1) .FloorDiv (.Constant (.int 4) 0 q1) q2, .BinOp (.Name (Str.ofString "rights") p2) .FloorDiv (.Constant (.int 2) 0 q3) q4, .Name (Str.ofString "rights") p3, .BinOp (.Name (Str.ofString "rights") p4) .FloorDiv (.Constant (.int 8) 0 q5) q6] q7) (.Name (Str.ofString "k") pk) q8) .Mod (.Constant (.int 2) 0 q9) qa) [.Eq] [.Constant (.int 1) 0 qb] qc] env) Q E ⟨hp, gs, dr, tk, os⟩ := by
  show wpAny _ _ (forIn [_] true _) _ _ _
  rw [List.forIn_cons]
  refine wpAny_bind ?_
  rw [if_pos rfl]
  refine wpAny_bind (wpAny_isTrue_Compare1 (wpAny_BinOp (Subscript_ (List_ ?_))))
  have hdiv : ∀ b : Int, b.natAbs < 1073741824 → Builtin.divisionGoesByPylong (r : Int) b = false := fun b hb => PyProof.noPylong_small hb
  refine spliced_more (wpAny_BinOp (ldCe hcell hcv (constI fun t1 k1 => divF (fun t2 k2 => ?_) (by decide) (hdiv _ (by decide))) hkf hl1))
  refine spliced_more (wpAny_BinOp (ldCe hcell hcv (constI fun t3 k3 => divF (fun t4 k4 => ?_) (by decide) (hdiv _ (by decide))) hkf hl1))
  refine spliced_more (ldCe hcell hcv ?_ hkf hl1)
  refine spliced_more (wpAny_BinOp (ldCe hcell hcv (constI fun t5 k5 => divF (fun t6 k6 => ?_) (by decide) (hdiv _ (by decide))) hkf hl1))
  refine spliced_none (newO (by simp) fun h2 l hk2 ho _ => ?_)
  have hns2 := keepsNs (h' := h2) hns fun o e => hk2 _ o e
  refine ldNs hns2 hm ?_ hC hkf hl2
  have fin : ∀ (x : Int) (tx : Tok) kk, (x.fmod 2 == 1) = bitOn r k → wpAny (model prog w) A (eval (.Constant (.int 2) 0 q9) env) (fun b s₂ => wpAny (model prog w) A (binaryOp .Mod (.int x tx) b) (fun a s₁ => wpAny (model prog w) A (eval (.Constant (.int 1) 0 qb) env) (fun b s₂ => wpAny (model prog w) A (compareOp .Eq a b) (fun c s₃ => wpAny (model prog w) A (truthy c) (fun ok s' => wpAny (model prog w) A (pure (ForInStep.yield ok)) (fun st s' => match st with | .done b => Q b s' | .yield b => wpAny (model prog w) A (forIn ([] : List Expr) b fun c r => if r = true then do let ok ← isTrue c env (eval c env); pure (ForInStep.yield ok) else pure (ForInStep.yield r)) Q E s') E s') E s₃) E s₂) E s₁) E s₂) E ⟨h2, gs, dr, kk, os⟩ := by
    intro x tx kk hb
    refine constI fun t1 k1 => modF (fun t2 k2 => constI fun t3 k3 => eq_int (wpAny_truthy_bool (wpAny_pure ?_))) (by decide)
    dsimp only
    rw [List.forIn_nil, hb]
    exact wpAny_pure (h h2 _ hk2)
  have hbit := bits_eq ⟨r, hr⟩ ⟨k, hk⟩
  have hk4 : k = 0 ∨ k = 1 ∨ k = 2 ∨ k = 3 := by lia
  rcases hk4 with rfl | rfl | rfl | rfl
  all_goals exact itemF ho (by decide) (by decide) rfl (fin _ _ _ hbit)
end

section
variable {prog : Program} {w : World} {A : Around} {E : Value → Shared → Prop} {s : Shared}
theorem intsAre_snoc {vs : List Value} {ns : List Int} {n : Int} {t : Tok} (h : IntsAre vs ns) : IntsAre (vs ++ [.int n t]) (ns ++ [n]) := IntsAre.append h (.cons n t .nil)
theorem might_succ (r n : Nat) : might r (n + 1) = might r n ++ (if bitOn r n then [n] else []) := by
  unfold might
  rw [List.range_succ, List.filter_append]
  congr 1
  cases h : bitOn r n <;> simp [h]
/-- [k for k in range(4) if ...] -/
theorem might_comp {env : Env} {scope : Scope} {cl : List (Str × Addr)} {c : Addr} {r : Nat} {tr : Tok} {px pk pk2 pr pc p1 p2 p3 p4 p5 q1 q2 q3 q4 q5 q6 q7 q8 q9 qa qb qc pos : Pos} {Q : Value → Shared → Prop}
    (hh : A.handled = none) (hr : r < 16) (hclos : closureFor scope env = pure cl) (hcell : ∀ y ∈ scope.names, y.2 ≠ .cell) (hkind : scope.kind = .function)
    (hnames : ∀ y ∈ scope.names, y.2 = .local → scope.names.lookup y.1 = some .local) (hx : scope.names.lookup (Str.ofString "k") = some .local)
    (hc : cl.lookup (Str.ofString "rights") = some c) (hrc : (relabel scope env).names.lookup (Str.ofString "rights") = some .cell) (hcv : s.heap.IsCell c (some (.int r tr)))
    (hrange : ∀ (Q : Value → Shared → Prop) (E : Value → Shared → Prop), Q (.type "range") s → wpAny (model prog w) A (eval (.Name (Str.ofString "range") pr) env) Q E s)
    (h : ∀ D ys h' tk e, s.heap.get? D = none → h'.get? D = some (lo ys e) → IntsAre ys ((might r 4).map Int.ofNat) → (∀ b o, s.heap.get? b = some o → h'.get? b = some o) → Q (.ref D) { s with heap := h', toks := tk }) :
    wpAny (model prog w) A (eval (.ListComp (.Name (Str.ofString "k") pk2) [⟨.Name (Str.ofString "k") px, .Call (.Name (Str.ofString "range") pr) [.Constant (.int 4) 0 p5] [] pc, [.Compare (.BinOp (.Subscript (.List [.BinOp (.Name (Str.ofString "rights") p1) .FloorDiv (.Constant (.int 4) 0 q1) q2, .BinOp (.Name (Str.ofString "rights") p2) .FloorDiv (.Constant (.int 2) 0 q3) q4, .Name (Str.ofString "rights") p3, .BinOp (.Name (Str.ofString "rights") p4) .FloorDiv (.Constant (.int 8) 0 q5) q6] q7) (.Name (Str.ofString "k") pk) q8) .Mod (.Constant (.int 2) 0 q9) qa) [.Eq] [.Constant (.int 1) 0 qb] qc], 0⟩] scope pos) env) Q E s := by
  refine comp_eval hclos hcell hkind hnames hx (Call_ (hrange _ _ (Pv.callWith_type1 (spliced_more (constI fun t0 k0 => spliced_none (call_range_1 ?_))))))
  obtain ⟨hp, gs, dr, tk, os⟩ := s
  dsimp only at hcv h ⊢
  have hr4 := IsRange.new hp 0 4 1 k0 t0 (k0 + 1)
  generalize hh2 : hp.push ({ cls := .type "range", data := .fields #[.int 0 k0, .int 4 t0, .int 1 (k0 + 1)] } : Obj) = h2 at *
  have hk2 : ∀ b o, hp.get? b = some o → h2.get? b = some o := fun b o e => hh2 ▸ Heap.get?_push_of_some _ e
  refine wpAny_pyIter_range hr4 (by decide) ?_
  have hit : IsRangeIter (h2.push { cls := .type "range_iterator", data := .fields #[rawInt 0, rawInt (Builtin.Range.rangeSize 0 4 1), rawInt 1] }) h2.objs.size (0 + ((0 : Nat) : Int) * 1) (((4 : Nat) : Int) - ((0 : Nat) : Int)) 1 := by
    show Heap.get? _ _ = _
    rw [show Builtin.Range.rangeSize 0 4 1 = 4 by decide]
    simpa using Heap.get?_push_size _ rfl
  dsimp only
  generalize hh3 : h2.push { cls := .type "range_iterator", data := .fields #[rawInt 0, rawInt (Builtin.Range.rangeSize 0 4 1), rawInt 1] } = h3 at *
  have hk3 : ∀ b o, hp.get? b = some o → h3.get? b = some o := fun b o e => hh3 ▸ Heap.get?_push_of_some _ (hk2 b o e)
  have hs2 : h2.objs.size = hp.objs.size + 1 := by rw [← hh2, Heap.size_push]
  have hs3 : h3.objs.size = hp.objs.size + 1 + 1 := by rw [← hh3, Heap.size_push, hs2]
  have ne2 : ∀ b o, hp.get? b = some o → b ∉ [h2.objs.size] := fun b o e q => by
    have := Heap.lt_size e
    rw [List.mem_singleton.mp q, hs2] at this
    exact Nat.lt_irrefl _ (Nat.lt_of_succ_lt this)
  refine ⟨h2.objs.size, [h2.objs.size], [h2.objs.size], 4, _, _, fun i ys h => IntsAre ys ((might r i).map Int.ofNat), rfl, Walks.range hh h2.objs.size 0 1 4, by decide, hit, ?_, ⟨fun _ _ => .nil, fun i ys h h' a _ => a, ?_⟩, ?_⟩
  · intro b hb
    rw [List.mem_singleton.mp hb, hs3, hs2]
    exact Nat.lt_succ_self _
  · rintro i v ys h tk' m hi ⟨tv, rfl⟩ hJ hns hm _ hk _
    have hiv : (0 : Int) + (i : Int) * 1 = ((i : Nat) : Int) := by lia
    rw [hiv] at hm
    obtain ⟨oc, hoc, hdc⟩ := hcv
    refine might_test (env := compEnvC scope cl (h3.objs.size + 1) env) hr hi hc ⟨oc, hk c oc (ne2 c oc hoc) (hk3 c oc hoc), hdc⟩ hns hm rfl (by simp [compEnvC, relabel, hkind]) hrc (lookup_relabel_local hx) fun h' k' hk' => ?_
    rw [might_succ]
    cases hb : bitOn r i with
    | false =>
      refine itF rfl ?_
      refine ⟨h', k', rfl, hk', ?_⟩
      rw [if_neg Bool.false_ne_true, List.append_nil]
      exact hJ
    | true =>
      refine itT rfl ?_
      refine ldNs (keepsNs hns fun o e => hk' _ o e) hm ⟨h', k', rfl, hk', ?_⟩ rfl (by simp [compEnvC, relabel, hkind]) (lookup_relabel_local hx)
      rw [if_pos rfl, List.map_append]
      exact intsAre_snoc hJ
  · intro ys h' tk' e hJ hD hk
    exact h _ ys h' tk' e (Heap.get?_none_of_le (by rw [hs3]; exact Nat.le_succ_of_le (Nat.le_succ _))) hD hJ fun b o q => hk b o (ne2 b o q) (hk3 b o q)
end

section
variable {prog : Program} {w : World} {A : Around} {E : Value → Shared → Prop} {hp : Heap} {gs : Array GenState} {dr : Drawn} {tk : Tok} {os : OsState}
theorem row_elt {env : Env} {p1 p2 p3 p4 : Pos} {C a : Addr} {m : Str → Option Value} {vs : List Value} {e : Nat} {r : List Int} {k : Int} {t : Tok} {Q : Value → Shared → Prop}
    (hC : env.locals = C) (hkf : env.scope.kind = .function) (hl1 : env.kindOf (Str.ofString "row") = some .local) (hl2 : env.kindOf (Str.ofString "k") = some .local)
    (hns : hp.Ns C m) (h0 : m (Str.ofString "row") = some (.ref a)) (h1 : m (Str.ofString "k") = some (.int k t)) (hg : hp.get? a = some (lo vs e)) (hi : IntsAre vs r) (hr : r.length ≤ 100)
    (h : ∀ h' tk' b vs', (∀ b o, hp.get? b = some o → h'.get? b = some o) → hp.get? b = none → h'.get? b = some (lo vs' 0) → IntsAre vs' (r ++ [k]) → Q (.ref b) ⟨h', gs, dr, tk', os⟩) :
    wpAny (model prog w) A (eval (.BinOp (.Name (Str.ofString "row") p1) .Add (.List [.Name (Str.ofString "k") p2] p3) p4) env) Q E ⟨hp, gs, dr, tk, os⟩ := by
  refine wpAny_BinOp (ldNs hns h0 (List_ (spliced_more (ldNs hns h1 (spliced_none (newO (by simp) fun h2 l hk2 ho hn => ?_)) hC hkf hl2))) hC hkf hl1)
  have hvl : vs.length = r.length := hi.length
  refine addL_at (s := ⟨h2, gs, dr, tk, os⟩) (hk2 _ _ hg) ho (by simp; lia) ?_
  refine h _ _ _ _ (fun b o q => Heap.get?_push_of_some _ (hk2 b o q)) ?_ (Heap.get?_push_size _ rfl) (intsAre_snoc hi)
  cases q : hp.get? h2.objs.size with
  | none => rfl
  | some o => exact absurd (Heap.lt_size (hk2 _ _ q)) (Nat.lt_irrefl _)
theorem globC {M : Model} {env : Env} {mg mb : Str → Option Value} {x : Str} {pos : Pos} {v : Value} {Q : Value → Shared → Prop} (S : Site w mg mb hp) (e : nsIn (KK w) mainGlobals x = some (some v)) (h : Q v ⟨hp, gs, dr, tk, os⟩)
    (hg : env.globals = mainGlobals := by rfl) (hk : env.scope.kind = .function := by rfl) (hx : env.kindOf x = some .globalImplicit := by rfl) (hd : (x == ("__debug__" : Str)) = false := by decide) :
    wpAny M A (eval (.Name x pos) env) Q E ⟨hp, gs, dr, tk, os⟩ := Name_function_global hk hx (loadGlobal_global (hg ▸ S.T.g) (mg_of S.X S.T.g e) h) hd
end

theorem strs_vals {vs : List Value} {xs : List Str} (h : StrsAre vs xs) : ∃ l : List (Str × Tok), vs = strValues l ∧ l.map (·.1) = xs := by
  induction h with
  | nil => exact ⟨[], rfl, rfl⟩
  | cons y t _ ih => obtain ⟨l, rfl, rfl⟩ := ih; exact ⟨(y, t) :: l, rfl, rfl⟩
noncomputable def joinE (xs : List Str) : Str := Builtin.Str.glued (Str.ofString "") xs
theorem fold_size : ∀ (xs : List Str) (a : Array Nat), (∀ x ∈ xs, x.length ≤ 100) → (xs.foldl (fun acc (p : Str) => acc ++ (Str.ofString "").cps ++ p.cps) a).size ≤ a.size + xs.length * 100
  | [], a, _ => by simp
  | x :: xs, a, h => by
    have h1 : x.cps.size ≤ 100 := h x (.head _)
    have h2 := fold_size xs (a ++ (Str.ofString "").cps ++ x.cps) fun y hy => h y (.tail _ hy)
    have h3 : (Str.ofString "").cps.size = 0 := rfl
    rw [List.foldl_cons, List.length_cons]
    simp only [Array.size_append] at h2
    lia
theorem joinE_len {xs : List Str} (h : ∀ x ∈ xs, x.length ≤ 100) : (joinE xs).length ≤ 100 + xs.length * 100 := by
  cases xs with
  | nil => exact Nat.zero_le _
  | cons x xs =>
    have h1 : x.cps.size ≤ 100 := h x (.head _)
    have h2 := fold_size xs x.cps fun y hy => h y (.tail _ hy)
    show (xs.foldl (fun acc (p : Str) => acc ++ (Str.ofString "").cps ++ p.cps) x.cps).size ≤ _
    rw [List.length_cons]
    lia
section
variable {prog : Program} {w : World} {A : Around} {E : Value → Shared → Prop} {hp : Heap} {gs : Array GenState} {dr : Drawn} {tk : Tok} {os : OsState}
theorem join_at {l : Addr} {vs : List Value} {xs : List Str} {e : Nat} {t : Tok} {Q : Value → Shared → Prop} (ho : hp.get? l = some (lo vs e)) (hx : StrsAre vs xs) (hn : xs.length ≤ 20) (hsz : ∀ x ∈ xs, x.length ≤ 100)
    (h : ∀ t' tk', Q (.str (joinE xs) t') ⟨hp, gs, dr, tk', os⟩) : wpAny (model prog w) A (call (.builtin "str.join") [.str (Str.ofString "") t, .ref l]) Q E ⟨hp, gs, dr, tk, os⟩ := by
  obtain ⟨ls, rfl, rfl⟩ := strs_vals hx
  refine call_meets F.slot_str_join (typeIs_str _ _ _) F.entry_str_join (F.args_str_join_2 _ _) (meets_str_join_list (Str.ofString "") t l ls ?_) ⟨⟨_, ho, rfl, _, rfl⟩, ?_⟩
  · have key : ∀ (xs : List Str) (a : Nat), (∀ x ∈ xs, x.length ≤ 100) → xs.foldl (fun (n : Nat) (x : Str) => n + x.length + (Str.ofString "").length) a ≤ a + xs.length * 100 := by
      intro xs
      induction xs with
      | nil => intro a _; simp
      | cons x xs ih =>
        intro a hx
        have h1 := hx x (.head _)
        have h2 := ih (a + x.length + (Str.ofString "").length) fun y hy => hx y (.tail _ hy)
        have h3 : (Str.ofString "").length = 0 := rfl
        rw [List.foldl_cons, List.length_cons]
        lia
    have hk := key (ls.map (·.1)) 0 hsz
    unfold Builtin.Str.tooLong
    refine decide_eq_false (Nat.not_lt.mpr ?_)
    rw [sizeLine_eq, List.foldl_toArray]
    lia
  · have hjl := joinE_len hsz
    have hjs : (joinE (ls.map (·.1))).length ≤ sizeLine := by rw [sizeLine_eq]; lia
    rcases ls with _ | ⟨p, _ | ⟨q, ls⟩⟩
    · exact ⟨hjs, h _ _⟩
    · have e : joinE [p.1] = p.1 := rfl
      have := h p.2 tk
      rw [show List.map (·.1) [p] = [p.1] from rfl, e] at this
      exact this
    · exact ⟨hjs, h _ _⟩
end

noncomputable def textOf (ps ws : List Nat) : Str := joinE (ps.map fun p => spell p ws)
section
variable {prog : Program} {w : World} {A : Around} {E : Value → Shared → Prop} {hp : Heap} {gs : Array GenState} {dr : Drawn} {tk : Tok} {os : OsState}
theorem spell_comp {env : Env} {scope : Scope} {mg mb : Str → Option Value} {cp cr pl a : Addr} {pvs vs : List Value} {ep er : Nat} {ps ws : List Nat} {px p1 p2 p3 p4 p5 pos : Pos} {Q : Value → Shared → Prop}
    (S : Site w mg mb hp) (hroom : A.depth < recursionLimit) (hh : A.handled = none)
    (hg : env.globals = mainGlobals) (hkf : env.scope.kind = .function)
    (hcp : env.cells.lookup (Str.ofString "places") = some cp) (hkp : env.kindOf (Str.ofString "places") = some .cell) (hpc : hp.IsCell cp (some (.ref pl))) (hpl : hp.get? pl = some (lo pvs ep)) (hps : IntsAre pvs (ps.map Int.ofNat)) (h6 : ∀ p ∈ ps, p < 6) (h4 : ps.length ≤ 4)
    (hrow : hp.IsCell cr (some (.ref a))) (hra : hp.get? a = some (lo vs er)) (hws : IntsAre vs (ws.map Int.ofNat)) (hw4 : ∀ k ∈ ws, k < 4) (hw3 : ws.length ≤ 3)
    (hclos : closureFor scope env = pure [(Str.ofString "row", cr)]) (hcell : ∀ y ∈ scope.names, y.2 ≠ .cell) (hkind : scope.kind = .function)
    (hnames : ∀ y ∈ scope.names, y.2 = .local → scope.names.lookup y.1 = some .local) (hx : scope.names.lookup (Str.ofString "place") = some .local)
    (hrc : (relabel scope env).names.lookup (Str.ofString "row") = some .cell) (hsp : (relabel scope env).names.lookup (Str.ofString "_law_spelled") = some .globalImplicit)
    (hfold : ∀ x, foldedSetIterable (.Name (Str.ofString "places") p5) env x = pure x)
    (h : ∀ D ys h' tk' e, (∀ b o, hp.get? b = some o → h'.get? b = some o) → h'.get? D = some (lo ys e) → StrsAre ys (ps.map fun p => spell p ws) → Q (.ref D) ⟨h', gs, dr, tk', os⟩) :
    wpAny (model prog w) A (eval (.ListComp (.Call (.Name (Str.ofString "_law_spelled") p1) [.Name (Str.ofString "place") p2, .Name (Str.ofString "row") p3] [] p4) [⟨.Name (Str.ofString "place") px, .Name (Str.ofString "places") p5, [], 0⟩] scope pos) env) Q E ⟨hp, gs, dr, tk, os⟩ := by
  refine comp_eval hclos hcell hkind hnames hx (ldCe hcp hpc ?_ hkf hkp) hfold
  refine wpAny_pyIter_list (s := ⟨hp, gs, dr, tk, os⟩) (⟨_, hpl, rfl, _, rfl⟩ : hp.IsList pl pvs.toArray) ?_
  dsimp only
  have hit : (hp.push { cls := .type "list_iterator", data := .fields #[.ref pl, .int 0 0] }).IsListIter hp.objs.size pl 0 := ⟨_, Heap.get?_push_size _ rfl, rfl, rfl⟩
  generalize hh3 : hp.push { cls := .type "list_iterator", data := .fields #[.ref pl, .int 0 0] } = h3 at *
  have hk3 : ∀ b o, hp.get? b = some o → h3.get? b = some o := fun b o e => hh3 ▸ Heap.get?_push_of_some _ e
  have hs3 : h3.objs.size = hp.objs.size + 1 := by rw [← hh3, Heap.size_push]
  have ne : ∀ b o, hp.get? b = some o → b ≠ hp.objs.size := fun b o e => Nat.ne_of_lt (Heap.lt_size e)
  have hpn : pvs.length = ps.length := by rw [hps.length, List.length_map]
  have W := Walks.list (prog := prog) (w := w) (A := A) hh hp.objs.size pl (ne _ _ hpl) pvs.toArray
  rw [List.size_toArray] at W
  refine ⟨hp.objs.size, _, _, pvs.length, _, _, fun i ys h => StrsAre ys ((ps.take i).map fun p => spell p ws), rfl, W, by lia, ⟨hit, ⟨_, hk3 _ _ hpl, rfl, _, rfl⟩⟩, ?_, ⟨fun _ _ => .nil, fun i ys h h' a _ => a, ?_⟩, ?_⟩
  · intro b hb
    rw [hs3]
    rcases List.mem_cons.mp hb with rfl | hb
    · exact Nat.lt_succ_self _
    · rw [List.mem_singleton.mp hb]; exact Nat.lt_succ_of_lt (Heap.lt_size hpl)
  · rintro i v ys h tk' m hi hP hJ hns hm _ hk _
    rw [List.getElem?_toArray] at hP
    have keep : ∀ b o, hp.get? b = some o → h.get? b = some o := fun b o e => hk b o (fun q => ne b o e (List.mem_singleton.mp q)) (hk3 b o e)
    have hips : i < ps.length := by lia
    obtain ⟨k, t, rfl, hki⟩ := intAt hps hP
    rw [List.getElem?_map, List.getElem?_eq_getElem hips] at hki
    obtain rfl := Option.some.inj hki
    show wpAny _ _ (forIn [] true _) _ _ _
    rw [List.forIn_nil]
    refine wpAny_pure ?_
    refine itT rfl ?_
    have S1 := S.keeps keep
    refine Call_ (globC S1 (by rfl) (callWith_K S1.X (by rfl) (spliced_more (ldNs hns hm (spliced_more (ldCe (c := cr) (by simp [compEnvC, List.lookup]) (hrow.keeps keep) (spliced_none ⟨S1.X, wpAny_call ?_⟩) (by simp [compEnvC, relabel, hkind]) hrc)) rfl (by simp [compEnvC, relabel, hkind]) (lookup_relabel_local hx)))) hg (by simp [compEnvC, relabel, hkind]) hsp)
    refine spelled_spec (p := ps[i]) S1 hroom hh (h6 _ (List.getElem_mem hips)) (keep _ _ hra) hws hw4 hw3 fun h' tk2 t' hkk => ?_
    refine ⟨h', tk2, rfl, fun b o e => hkk b o (by simp) e, ?_⟩
    rw [List.take_add_one, List.getElem?_eq_getElem hips, Option.toList_some, List.map_append]
    exact strsAre_snoc hJ _ _
  · intro ys h' tk' e hJ hD hk
    rw [hpn, List.take_length] at hJ
    exact h _ ys h' tk' e (fun b o q => hk b o (fun z => ne b o q (List.mem_singleton.mp z)) (hk3 b o q)) hD hJ
end


section
variable {M : Model} {A : Around} {E : Value → Shared → Prop} {hp : Heap} {gs : Array GenState} {dr : Drawn} {tk : Tok} {os : OsState}
theorem stE {env : Env} {L : Addr} {g : Heap} {m : Str → Option Value} {x : Str} {v : Value} {Q : Unit → Shared → Prop} (F : Fr g L hp m)
    (h : ∀ h' tk', Fr g L h' (fun y => if y = x then some v else m y) → (∀ b o, b ≠ L → hp.get? b = some o → h'.get? b = some o) → Q () ⟨h', gs, dr, tk', os⟩)
    (hL : env.locals = L := by rfl) (hk : env.scope.kind = .function := by rfl) (hl : env.kindOf x = some .local := by rfl) : wpAny M A (storeName env x v) Q E ⟨hp, gs, dr, tk, os⟩ :=
  wpAny_storeName_local (s := ⟨hp, gs, dr, tk, os⟩) hl (hL ▸ F.ns) (fun h' hn hs => h h' _ (F.set (hL ▸ hn) (hL ▸ hs)) fun b o hb e => ((hL ▸ hs : Heap.SameBut L hp h').2 b hb).trans e) (by rw [hk]; rfl)
end
noncomputable def latI (ks : List Int) : Nat → List (List Int)
  | 0 => [[]]
  | n + 1 => (latI ks n).flatMap (grow ks)
noncomputable def ordI (ks : List Int) : Nat → List (List Int)
  | 0 => [[]]
  | n + 1 => ordI ks n ++ latI ks (n + 1)
inductive RowsAt (v : Option Value) (X : List Addr) (h : Heap) (rows : List (List Int)) : Prop
  | mk (a : Addr) (vs : List Value) (e : Nat) (hm : v = some (.ref a)) (ha : a ∉ X) (ho : h.get? a = some (lo vs e)) (hr : Rows X h vs rows)
structure LoopJ (X : List Addr) (c1 c3 mi pl : Addr) (mvs : List Value) (em : Nat) (ks : List Int) (i : Nat) (m : Str → Option Value) (h : Heap) : Prop where
  lat : RowsAt (m (Str.ofString "latest")) X h (latI ks i)
  ord : RowsAt (m (Str.ofString "orders")) X h (ordI ks i)
  nmi : mi ∉ X
  omi : h.get? mi = some (lo mvs em)
  nc1 : c1 ∉ X
  oc1 : h.IsCell c1 (some (.ref pl))
  nc3 : c3 ∉ X
  oc3 : h.IsCell c3 (some (.ref mi))
theorem LoopJ.stab {X : List Addr} {c1 c3 mi pl : Addr} {mvs : List Value} {em : Nat} {ks : List Int} {i : Nat} {m : Str → Option Value} {h h' : Heap} (j : LoopJ X c1 c3 mi pl mvs em ks i m h) (hk : ∀ b o, b ∉ X → h.get? b = some o → h'.get? b = some o) : LoopJ X c1 c3 mi pl mvs em ks i m h' := by
  obtain ⟨la, lav, e, a1, a2, a3, a4⟩ := j.lat
  obtain ⟨od, ov, e2, b1, b2, b3, b4⟩ := j.ord
  obtain ⟨o1, p1, q1⟩ := j.oc1
  obtain ⟨o3, p3, q3⟩ := j.oc3
  exact ⟨⟨la, lav, e, a1, a2, hk _ _ a2 a3, a4.stab hk⟩, ⟨od, ov, e2, b1, b2, hk _ _ b2 b3, b4.stab hk⟩, j.nmi, hk _ _ j.nmi j.omi, j.nc1, ⟨o1, hk _ _ j.nc1 p1, q1⟩, j.nc3, ⟨o3, hk _ _ j.nc3 p3, q3⟩⟩
theorem LoopJ.congr {X : List Addr} {c1 c3 mi pl : Addr} {mvs : List Value} {em : Nat} {ks : List Int} {i : Nat} {m m' : Str → Option Value} {h : Heap} (j : LoopJ X c1 c3 mi pl mvs em ks i m h) (h1 : m' (Str.ofString "latest") = m (Str.ofString "latest")) (h2 : m' (Str.ofString "orders") = m (Str.ofString "orders")) : LoopJ X c1 c3 mi pl mvs em ks i m' h :=
  ⟨h1 ▸ j.lat, h2 ▸ j.ord, j.nmi, j.omi, j.nc1, j.oc1, j.nc3, j.oc3⟩
theorem LoopJ.more {X Y : List Addr} {c1 c3 mi pl : Addr} {mvs : List Value} {em : Nat} {ks : List Int} {i : Nat} {m : Str → Option Value} {h : Heap} (j : LoopJ X c1 c3 mi pl mvs em ks i m h) (hX : ∀ a, a ∉ X → a ∉ Y) : LoopJ Y c1 c3 mi pl mvs em ks i m h := by
  obtain ⟨la, lav, e, a1, a2, a3, a4⟩ := j.lat
  obtain ⟨od, ov, e2, b1, b2, b3, b4⟩ := j.ord
  exact ⟨⟨la, lav, e, a1, hX _ a2, a3, a4.more fun a ha _ => hX a ha⟩, ⟨od, ov, e2, b1, hX _ b2, b3, b4.more fun a ha _ => hX a ha⟩, hX _ j.nmi, j.omi, hX _ j.nc1, j.oc1, hX _ j.nc3, j.oc3⟩
theorem Rows.one {X : List Addr} {h : Heap} {v : Value} {r : List Int} (y : RowAt X h v r) : Rows X h [v] [r] := Rows.snoc (ys := []) (rs := []) ⟨rfl, fun i v r a _ => by simp at a⟩ y
theorem lat_len {ks : List Int} (hk : ks.length ≤ 4) : ∀ i, (latI ks i).length ≤ 4 ^ i
  | 0 => by simp [latI]
  | i + 1 => by
    have ih := lat_len hk i
    have e : ∀ l : List (List Int), (l.flatMap (grow ks)).length = l.length * ks.length := by
      intro l
      induction l with
      | nil => simp
      | cons a l ih => rw [List.flatMap_cons, List.length_append, ih, List.length_map, List.length_cons]; rw [Nat.succ_mul, Nat.add_comm]
    show ((latI ks i).flatMap (grow ks)).length ≤ _
    rw [e, Nat.pow_succ]
    exact Nat.mul_le_mul ih hk
theorem lat_row {ks : List Int} : ∀ i, ∀ r ∈ latI ks i, r.length = i
  | 0, r, h => by simp [latI] at h; rw [h]; rfl
  | i + 1, r, h => by
    obtain ⟨a, ha, hr⟩ := List.mem_flatMap.mp h
    obtain ⟨k, _, rfl⟩ := List.mem_map.mp hr
    rw [List.length_append, lat_row i a ha]; rfl
theorem ord_len {ks : List Int} (hk : ks.length ≤ 4) : ∀ i, i ≤ 3 → (ordI ks i).length ≤ 85 := by
  have h0 : (latI ks 0).length ≤ 1 := lat_len hk 0
  have h1 : (latI ks 1).length ≤ 4 := lat_len hk 1
  have h2 : (latI ks 2).length ≤ 16 := lat_len hk 2
  have h3 : (latI ks 3).length ≤ 64 := lat_len hk 3
  have o0 : (ordI ks 0).length = 1 := rfl
  have o1 : (ordI ks 1).length = (ordI ks 0).length + (latI ks 1).length := List.length_append
  have o2 : (ordI ks 2).length = (ordI ks 1).length + (latI ks 2).length := List.length_append
  have o3 : (ordI ks 3).length = (ordI ks 2).length + (latI ks 3).length := List.length_append
  intro i hi
  have : i = 0 ∨ i = 1 ∨ i = 2 ∨ i = 3 := by lia
  rcases this with rfl | rfl | rfl | rfl <;> lia
theorem Rows.append {X : List Addr} {h : Heap} {ys zs : List Value} {rs ts : List (List Int)} (x : Rows X h ys rs) (y : Rows X h zs ts) : Rows X h (ys ++ zs) (rs ++ ts) := by
  refine ⟨by rw [List.length_append, List.length_append, x.1, y.1], fun i v r a b => ?_⟩
  by_cases hi : i < ys.length
  · rw [List.getElem?_append_left hi] at a
    rw [List.getElem?_append_left (x.1 ▸ hi)] at b
    exact x.2 i v r a b
  · rw [List.getElem?_append_right (by lia)] at a
    rw [List.getElem?_append_right (by have := x.1; lia), ← x.1] at b
    exact y.2 _ v r a b
section
variable {prog : Program} {w : World} {A : Around} {E : Value → Shared → Prop} {hp : Heap} {gs : Array GenState} {dr : Drawn} {tk : Tok} {os : OsState}
theorem due_turn {env : Env} {scope : Scope} {g : Heap} {L I c1 c3 mi pl : Addr} {m : Str → Option Value} {mvs : List Value} {em : Nat} {ks : List Int} {i : Nat} {p0 p1 p2 p3 p4 p5 p6 p7 p8 p9 pa pb pc pd pe pos : Pos} {Q : Flow → Shared → Prop}
    (hh : A.handled = none) (hL : env.locals = L) (hkf : env.scope.kind = .function) (hll : env.kindOf (Str.ofString "latest") = some .local) (hlo : env.kindOf (Str.ofString "orders") = some .local)
    (hsw : swapsWith (.ListComp (.BinOp (.Name (Str.ofString "row") p1) .Add (.List [.Name (Str.ofString "k") p2] p3) p4) [⟨.Name (Str.ofString "row") p5, .Name (Str.ofString "latest") p6, [], 0⟩, ⟨.Name (Str.ofString "k") p7, .Name (Str.ofString "might") p8, [], 0⟩] scope pos) (some (.Name (Str.ofString "latest") p9)) pa.line env = pure true)
    (hclos : closureFor scope env = pure [(Str.ofString "might", c3)]) (hcell : ∀ y ∈ scope.names, y.2 ≠ .cell) (hkind : scope.kind = .function)
    (hnames : ∀ y ∈ scope.names, y.2 = .local → scope.names.lookup y.1 = some .local) (hx0 : scope.names.lookup (Str.ofString "row") = some .local) (hx1 : scope.names.lookup (Str.ofString "k") = some .local)
    (hmc : (relabel scope env).names.lookup (Str.ofString "might") = some .cell)
    (hfold : ∀ c v, foldedSetIterable (.Name (Str.ofString "might") p8) (compEnvC scope [(Str.ofString "might", c3)] c env) v = pure v) (hs : ∀ x, foldedSetIterable (.Name (Str.ofString "latest") p6) env x = pure x)
    (hks : IntsAre mvs ks) (hk4 : ks.length ≤ 4) (hi : i < 3) (hIL : I ≠ L) (F : Fr g L hp m) (hI : ∃ oI, hp.get? I = some oI ∧ oI.cls = .type "range_iterator") (j : LoopJ [I, L] c1 c3 mi pl mvs em ks i m hp)
    (h : ∀ h' tk' m', Fr g L h' m' → LoopJ [I, L] c1 c3 mi pl mvs em ks (i + 1) m' h' → (∀ b o, b ≠ L → hp.get? b = some o → h'.get? b = some o) → Q .next ⟨h', gs, dr, tk', os⟩) :
    wpAny (model prog w) A (execs [.Assign [.Name (Str.ofString "latest") p9] (.ListComp (.BinOp (.Name (Str.ofString "row") p1) .Add (.List [.Name (Str.ofString "k") p2] p3) p4) [⟨.Name (Str.ofString "row") p5, .Name (Str.ofString "latest") p6, [], 0⟩, ⟨.Name (Str.ofString "k") p7, .Name (Str.ofString "might") p8, [], 0⟩] scope pos) pa,
      .Assign [.Name (Str.ofString "orders") pb] (.BinOp (.Name (Str.ofString "orders") pc) .Add (.Name (Str.ofString "latest") pd) pe) p0] env) Q (fun _ _ => False) ⟨hp, gs, dr, tk, os⟩ := by
  obtain ⟨la, lav, e1, a1, a2, a3, a4⟩ := j.lat
  have hlen : lav.length ≤ 64 := by
    have := lat_len hk4 i
    have h2 : 4 ^ i ≤ 4 ^ 3 := Nat.pow_le_pow_right (by decide) (by lia)
    rw [a4.1]
    lia
  subst hL
  refine wpAny_execs_cons (comp_twoA (s := ⟨hp, gs, dr, tk, os⟩) hsw hclos hh (mark_none _) F a3 j.omi (fun Q E hq => ldNs F.ns a1 hq rfl hkf hll) hcell hkind hnames hx0 hx1 (by decide) hll hkf (Rows.more a4 fun a ha _ q => ha (by rw [List.mem_singleton.mp q]; simp)) hks (by lia) (by rw [hks.length]; lia) hfold
    (fun C h tk Q E hk hq => ldCe (c := c3) (by simp [compEnvC]) (j.oc3.keeps hk) hq (by simp [compEnvC, relabel, hkind]) hmc)
    (fun C h tk m a vs e r k t Q E b1 b2 b3 b4 b5 b6 b7 => row_elt rfl (by simp [compEnvC, relabel, hkind]) (lookup_relabel_local hx0) (lookup_relabel_local hx1) b1 b2 b3 b4 b5 (by rw [lat_row i r b6]; lia) b7) (fun D ys h' tk' c hDn hrs hD F' hk => ?_) hs)
  dsimp only at hDn hk
  obtain ⟨oI, hoI, hcI⟩ := hI
  have hoI' := hk I oI hIL hoI
  have hrs' : Rows [I, env.locals] h' ys (latI ks (i + 1)) := Rows.more hrs fun a ha ⟨vs, e, hg⟩ q => by
    rcases List.mem_cons.mp q with q | q
    · rw [q, hoI'] at hg
      rw [Option.some.inj hg] at hcI
      exact absurd (show Value.type "list" = Value.type "range_iterator" from hcI) (by decide)
    · exact ha q
  have hDX : D ∉ [I, env.locals] := fun q => by
    rcases List.mem_cons.mp q with q | q
    · rw [q, hoI] at hDn; cases hDn
    · obtain ⟨o, _, _, ho, _⟩ := F.ns
      rw [List.mem_singleton.mp q, ho] at hDn; cases hDn
  have j' := j.stab (h' := h') fun b o hb e => hk b o (fun q => hb (by rw [q]; simp)) e
  obtain ⟨od, ov, e2, o1, o2, o3, o4⟩ := j'.ord
  refine wpAny_execs_cons (wpAny_Assign_Name (wpAny_BinOp (ldNs F'.ns (by rw [if_neg (by decide)]; exact o1) (ldNs F'.ns (by rw [if_pos rfl]) (addL_at (s := ⟨h', gs, dr, tk', os⟩) o3 hD ?_ ?_) rfl hkf hll) rfl hkf hlo)) rfl)
  · have := ord_len hk4 i (by lia)
    have h3 := lat_len hk4 (i + 1)
    have h2 : 4 ^ (i + 1) ≤ 4 ^ 3 := Nat.pow_le_pow_right (by decide) (by lia)
    rw [o4.1, hrs'.1]
    lia
  · have F2 := F'.push (lo (ov ++ ys) 0)
    refine stE F2 (fun h3 k3 F3 K3 => wpAny_execs_nil (h h3 k3 _ F3 ⟨⟨D, ys, c, ?_, hDX, ?_, ?_⟩, ⟨h'.objs.size, ov ++ ys, 0, ?_, ?_, ?_, ?_⟩, j'.nmi, ?_, j'.nc1, ?_, j'.nc3, ?_⟩ fun b o hb e => K3 b o hb (Heap.get?_push_of_some _ (hk b o hb e)))) rfl hkf hlo
    all_goals try (have nL : ∀ b, b ∉ [I, env.locals] → b ≠ env.locals := fun b hb q => hb (by rw [q]; simp))
    · rw [if_neg (by decide), if_pos rfl]
    · exact K3 _ _ (nL _ hDX) (Heap.get?_push_of_some _ hD)
    · exact hrs'.stab fun b o hb e => K3 b o (nL b hb) (Heap.get?_push_of_some _ e)
    · rw [if_pos rfl]
    · intro q
      rcases List.mem_cons.mp q with q | q
      · exact Nat.ne_of_lt (Heap.lt_size hoI') q.symm
      · exact Nat.ne_of_lt F'.ns.lt (List.mem_singleton.mp q).symm
    · exact K3 _ _ (Nat.ne_of_gt F'.ns.lt) (Heap.get?_push_size _ rfl)
    · exact Rows.append (o4.stab fun b o hb e => K3 b o (nL b hb) (Heap.get?_push_of_some _ e)) (hrs'.stab fun b o hb e => K3 b o (nL b hb) (Heap.get?_push_of_some _ e))
    · exact K3 _ _ (nL _ j'.nmi) (Heap.get?_push_of_some _ j'.omi)
    · obtain ⟨o, p, q⟩ := j'.oc1
      exact ⟨o, K3 _ _ (nL _ j'.nc1) (Heap.get?_push_of_some _ p), q⟩
    · obtain ⟨o, p, q⟩ := j'.oc3
      exact ⟨o, K3 _ _ (nL _ j'.nc3) (Heap.get?_push_of_some _ p), q⟩
end

noncomputable def latN (ks : List Nat) : Nat → List (List Nat)
  | 0 => [[]]
  | n + 1 => (latN ks n).flatMap fun r => ks.map fun k => r ++ [k]
noncomputable def ordN (ks : List Nat) : Nat → List (List Nat)
  | 0 => [[]]
  | n + 1 => ordN ks n ++ latN ks (n + 1)
theorem lat_nat (ks : List Nat) : ∀ n, latI (ks.map Int.ofNat) n = (latN ks n).map (List.map Int.ofNat)
  | 0 => rfl
  | n + 1 => by
    show (latI _ n).flatMap (grow _) = List.map _ ((latN ks n).flatMap _)
    rw [lat_nat ks n, List.map_flatMap, List.flatMap_map]
    refine congrArg (fun f => List.flatMap f (latN ks n)) (funext fun r => ?_)
    simp [grow, List.map_map, Function.comp_def]
theorem ord_nat (ks : List Nat) : ∀ n, ordI (ks.map Int.ofNat) n = (ordN ks n).map (List.map Int.ofNat)
  | 0 => rfl
  | n + 1 => by
    show ordI _ n ++ latI _ (n + 1) = _
    rw [ord_nat ks n, lat_nat ks (n + 1), ← List.map_append]; rfl
theorem latN_ok {ks : List Nat} (hk : ∀ k ∈ ks, k < 4) : ∀ n, ∀ r ∈ latN ks n, r.length = n ∧ ∀ k ∈ r, k < 4
  | 0, r, h => by rw [List.mem_singleton.mp h]; exact ⟨rfl, fun k q => (nomatch q)⟩
  | n + 1, r, h => by
    obtain ⟨a, ha, hr⟩ := List.mem_flatMap.mp h
    obtain ⟨k, hk', rfl⟩ := List.mem_map.mp hr
    obtain ⟨h1, h2⟩ := latN_ok hk n a ha
    refine ⟨by rw [List.length_append, h1]; rfl, fun q hq => ?_⟩
    rcases List.mem_append.mp hq with hq | hq
    · exact h2 q hq
    · rw [List.mem_singleton.mp hq]; exact hk k hk'
theorem ordN_ok {ks : List Nat} (hk : ∀ k ∈ ks, k < 4) : ∀ n, ∀ r ∈ ordN ks n, r.length ≤ n ∧ ∀ k ∈ r, k < 4
  | 0, r, h => by rw [List.mem_singleton.mp h]; exact ⟨Nat.le_refl _, fun k q => (nomatch q)⟩
  | n + 1, r, h => by
    rcases List.mem_append.mp h with h | h
    · have := ordN_ok hk n r h; exact ⟨Nat.le_succ_of_le this.1, this.2⟩
    · have := latN_ok hk (n + 1) r h; exact ⟨Nat.le_of_eq this.1, this.2⟩
section
variable {prog : Program} {w : World} {A : Around} {E : Value → Shared → Prop} {hp : Heap} {gs : Array GenState} {dr : Drawn} {tk : Tok} {os : OsState}
inductive StrsGot (gs : Array GenState) (dr : Drawn) (os : OsState) (xs : List Str) (Q : Value → Shared → Prop) (v : Value) (s' : Shared) : Prop
  | mk (D : Addr) (ys : List Value) (c : Nat) (h' : Heap) (tk' : Nat) (ev : v = .ref D) (es : s' = (⟨h', gs, dr, tk', os⟩ : Shared)) (hD : h'.get? D = some (lo ys c)) (hx : StrsAre ys xs) (k : ∀ t' tk'', Q (.str (joinE xs) t') ⟨h', gs, dr, tk'', os⟩)
/-- ''.join(list expression) -/
theorem join_call {env : Env} {elt : Expr} {gens : List Comprehension} {scope : Scope} {pos : Pos} {pl : Sem Bool} {p1 p2 p3 : Pos} {xs : List Str} {Q : Value → Shared → Prop} (hn : xs.length ≤ 20) (hsz : ∀ x ∈ xs, x.length ≤ 100)
    (h : ∀ tk, wpAny (model prog w) A (eval (.ListComp elt gens scope pos) env) (StrsGot gs dr os xs Q) E ⟨hp, gs, dr, tk, os⟩)
    (he : eval (.Call (.Attribute (.Constant (.str (Str.ofString "")) 0 p1) (Str.ofString "join") p2) [.ListComp elt gens scope pos] [] p3) env = (do
      let ov ← eval (.Constant (.str (Str.ofString "")) 0 p1) env
      standAt p2.atName
      let (f, first) ← holding [ov] (getMethod ov (Str.ofString "join") pl)
      callWith p3 f first (backTo p3 (starEach [.ListComp elt gens scope pos] env)) []) := by rfl) :
    wpAny (model prog w) A (eval (.Call (.Attribute (.Constant (.str (Str.ofString "")) 0 p1) (Str.ofString "join") p2) [.ListComp elt gens scope pos] [] p3) env) Q E ⟨hp, gs, dr, tk, os⟩ := by
  with_reducible refine MethodCall_ ?_ he
  with_reducible refine constS fun t1 k1 => ?_
  with_reducible refine GM.join ?_
  refine callWith_method1 ?_
  refine spliced_more (wpAny_mono (h _) (fun v s' hv => ?_) fun _ _ x => x)
  obtain ⟨D, ys, c, h', tk', rfl, rfl, hD, hx, hq⟩ := hv
  exact spliced_none (join_at hD hx hn hsz hq)
end

theorem spell_small : ∀ r < 16, ∀ ws ∈ ordN (might r 4) 3, ∀ p < 6, (spell p ws).length ≤ 100 := by decide +kernel

section
variable {prog : Program} {w : World} {A : Around} {E : Value → Shared → Prop} {hp : Heap} {gs : Array GenState} {dr : Drawn} {tk : Tok} {os : OsState}
theorem globBC {M : Model} {env : Env} {mg mb : Str → Option Value} {x : Str} {pos : Pos} {v : Value} {Q : Value → Shared → Prop} (S : Site w mg mb hp) (e : nsIn (KK w) mainGlobals x = some none) (hv : bootBuiltins x = some v) (hn : x ≠ "__name__") (h : Q v ⟨hp, gs, dr, tk, os⟩)
    (hg : env.globals = mainGlobals := by rfl) (hb : env.builtins = builtinsNs := by rfl) (hk : env.scope.kind = .function := by rfl) (hx : env.kindOf x = some .globalImplicit := by rfl) (hd : (x == ("__debug__" : Str)) = false := by decide) :
    wpAny M A (eval (.Name x pos) env) Q E ⟨hp, gs, dr, tk, os⟩ := Name_function_global hk hx (loadGlobal_builtin (hg ▸ S.T.g) (mg_none_of S.X S.T.g e) (hb ▸ S.T.b) ((S.T.builtins x hn).trans hv) h) hd
theorem pair_elt {env : Env} {mg mb : Str → Option Value} {p1 p2 p3 p4 p5 : Pos} {k : Nat} {C : Addr} {m : Str → Option Value} {x : Str} {t : Tok} {Q : Value → Shared → Prop}
    (S : Site w mg mb hp) (hC : env.locals = C) (hg : env.globals = mainGlobals) (hb : env.builtins = builtinsNs) (hkf : env.scope.kind = .function) (hl1 : env.kindOf (Str.ofString "text") = some .local) (hl2 : env.kindOf (Str.ofString "len") = some .globalImplicit)
    (hns : hp.Ns C m) (hm : m (Str.ofString "text") = some (.str x t)) (hlen : x.length ≤ 1000000)
    (h : ∀ h' tk' a, (∀ b o, hp.get? b = some o → h'.get? b = some o) → hp.get? a = none → IsPair h' (.ref a) ((x.length : Int), x) → (∃ o, h'.get? a = some o) → Q (.ref a) ⟨h', gs, dr, tk', os⟩) :
    wpAny (model prog w) A (eval (.Tuple [.Call (.Name (Str.ofString "len") p1) [.Name (Str.ofString "text") p2] [] p3, .Name (Str.ofString "text") p4] k p5) env) Q E ⟨hp, gs, dr, tk, os⟩ := by
  refine Tuple_ (spliced_more (Call_ (globBC S (by rfl) boot_len (by decide) (callWith_builtin1 (spliced_more (ldNs hns hm (spliced_none ?_) hC hkf hl1))) hg hb hkf hl2)))
  refine len_str (by lia) (spliced_more (ldNs hns hm (spliced_none ?_) hC hkf hl1))
  refine wpAny_newObj_type ?_ (by show 2 ≤ sizeLine; rw [sizeLine_eq]; decide)
  exact h _ _ _ (fun b o e => Heap.get?_push_of_some _ e) (Heap.get?_none_of_le (Nat.le_refl _)) ⟨_, _, _, _, _, rfl, Heap.get?_push_size _ rfl, rfl, rfl⟩ ⟨_, Heap.get?_push_size _ rfl⟩
theorem strAt {vs : List Value} {xs : List Str} (h : StrsAre vs xs) : ∀ {i : Nat} {v : Value}, vs[i]? = some v → ∃ x t, v = .str x t ∧ xs[i]? = some x := by
  induction h with
  | nil => intro i v e; simp at e
  | cons y t _ ih =>
    intro i v e
    cases i with
    | zero => exact ⟨y, t, (Option.some.inj e).symm, rfl⟩
    | succ i => exact ih e
/-- [(len(text), text) for text in texts] -/
theorem pair_comp {env : Env} {scope : Scope} {mg mb : Str → Option Value} {lt : Addr} {tvs : List Value} {et : Nat} {xs : List Str} {px p1 p2 p3 p4 p5 p6 pos : Pos} {k : Nat} {Q : Value → Shared → Prop}
    (S : Site w mg mb hp) (hh : A.handled = none) (hg : env.globals = mainGlobals) (hb : env.builtins = builtinsNs)
    (hload : ∀ (Q : Value → Shared → Prop) (E : Value → Shared → Prop), Q (.ref lt) ⟨hp, gs, dr, tk, os⟩ → wpAny (model prog w) A (eval (.Name (Str.ofString "texts") p6) env) Q E ⟨hp, gs, dr, tk, os⟩)
    (hlt : hp.get? lt = some (lo tvs et)) (hxs : StrsAre tvs xs) (hn : xs.length ≤ 1000) (hsz : ∀ x ∈ xs, x.length ≤ 1000000)
    (hclos : closureFor scope env = pure []) (hcell : ∀ y ∈ scope.names, y.2 ≠ .cell) (hkind : scope.kind = .function)
    (hnames : ∀ y ∈ scope.names, y.2 = .local → scope.names.lookup y.1 = some .local) (hx : scope.names.lookup (Str.ofString "text") = some .local) (hln : (relabel scope env).names.lookup (Str.ofString "len") = some .globalImplicit)
    (hfold : ∀ x, foldedSetIterable (.Name (Str.ofString "texts") p6) env x = pure x)
    (h : ∀ D ys h' tk' e, (∀ b o, hp.get? b = some o → h'.get? b = some o) → hp.get? D = none → h'.get? D = some (lo ys e) → ys.length = xs.length → (∀ (j : Nat) v p, ys[j]? = some v → (xs.map fun x => ((x.length : Int), x))[j]? = some p → PairX [] h' (v, p)) → Q (.ref D) ⟨h', gs, dr, tk', os⟩) :
    wpAny (model prog w) A (eval (.ListComp (.Tuple [.Call (.Name (Str.ofString "len") p1) [.Name (Str.ofString "text") p2] [] p3, .Name (Str.ofString "text") p4] k p5) [⟨.Name (Str.ofString "text") px, .Name (Str.ofString "texts") p6, [], 0⟩] scope pos) env) Q E ⟨hp, gs, dr, tk, os⟩ := by
  refine comp_eval hclos hcell hkind hnames hx (hload _ _ ?_) hfold
  refine wpAny_pyIter_list (s := ⟨hp, gs, dr, tk, os⟩) (⟨_, hlt, rfl, _, rfl⟩ : hp.IsList lt tvs.toArray) ?_
  dsimp only
  have hit : (hp.push { cls := .type "list_iterator", data := .fields #[.ref lt, .int 0 0] }).IsListIter hp.objs.size lt 0 := ⟨_, Heap.get?_push_size _ rfl, rfl, rfl⟩
  generalize hh3 : hp.push { cls := .type "list_iterator", data := .fields #[.ref lt, .int 0 0] } = h3 at *
  have hk3 : ∀ b o, hp.get? b = some o → h3.get? b = some o := fun b o e => hh3 ▸ Heap.get?_push_of_some _ e
  have hs3 : h3.objs.size = hp.objs.size + 1 := by rw [← hh3, Heap.size_push]
  have ne : ∀ b o, hp.get? b = some o → b ≠ hp.objs.size := fun b o e => Nat.ne_of_lt (Heap.lt_size e)
  have htl : tvs.length = xs.length := hxs.length
  have W := Walks.list (prog := prog) (w := w) (A := A) hh hp.objs.size lt (ne _ _ hlt) tvs.toArray
  rw [List.size_toArray] at W
  refine ⟨hp.objs.size, _, _, tvs.length, _, _, fun i ys h => ys.length = i ∧ ∀ (j : Nat) v p, ys[j]? = some v → (xs.map fun x => ((x.length : Int), x))[j]? = some p → PairX [hp.objs.size, h3.objs.size, h3.objs.size + 1] h (v, p), rfl, W, by lia, ⟨hit, ⟨_, hk3 _ _ hlt, rfl, _, rfl⟩⟩, ?_, ⟨?_, ?_, ?_⟩, ?_⟩
  · intro b hb
    rw [hs3]
    rcases List.mem_cons.mp hb with rfl | hb
    · exact Nat.lt_succ_self _
    · rw [List.mem_singleton.mp hb]; exact Nat.lt_succ_of_lt (Heap.lt_size hlt)
  · exact fun _ _ => ⟨rfl, fun j v p a _ => by simp at a⟩
  · intro i ys h h' hj hk
    exact ⟨hj.1, fun j v p a b => (hj.2 j v p a b).stab fun b o hb e => hk b o (fun q => hb (by rw [List.mem_singleton.mp q]; simp)) (fun q => hb (by rw [q]; simp)) (fun q => hb (by rw [q]; simp)) e⟩
  · rintro i v ys h tk' m hi hP hJ hns hm ⟨oD, hoD⟩ hk hst
    rw [List.getElem?_toArray] at hP
    have keep : ∀ b o, hp.get? b = some o → h.get? b = some o := fun b o e => hk b o (fun q => ne b o e (List.mem_singleton.mp q)) (hk3 b o e)
    obtain ⟨x, t, rfl, hxi⟩ := strAt hxs hP
    show wpAny _ _ (forIn [] true _) _ _ _
    rw [List.forIn_nil]
    refine wpAny_pure ?_
    refine itT rfl ?_
    refine pair_elt (S.keeps keep) rfl hg hb (by simp [compEnvC, relabel, hkind]) (lookup_relabel_local hx) hln hns hm (hsz x (List.mem_of_getElem? hxi)) fun h' tk2 a K' ha hpa _ => ?_
    have haX : a ∉ [hp.objs.size, h3.objs.size, h3.objs.size + 1] := fun q => by
      rcases List.mem_cons.mp q with q | q
      · obtain ⟨o, ho, _⟩ := hst.1; rw [q] at ha; exact absurd (ha.symm.trans ho) (by simp)
      · rcases List.mem_cons.mp q with q | q
        · rw [q] at ha; rw [show h.get? h3.objs.size = some oD from hoD] at ha; cases ha
        · obtain ⟨o, _, _, ho, _⟩ := hns; rw [List.mem_singleton.mp q] at ha; rw [show h.get? (h3.objs.size + 1) = some o from ho] at ha; cases ha
    refine ⟨h', tk2, rfl, K', by rw [List.length_append, hJ.1]; rfl, fun j v p e1 e2 => ?_⟩
    by_cases hj : j < ys.length
    · rw [List.getElem?_append_left hj] at e1
      exact (hJ.2 j v p e1 e2).stab fun b o _ e => K' b o e
    · rw [List.getElem?_append_right (by lia)] at e1
      have hj0 : j - ys.length = 0 := by
        cases q : j - ys.length with
        | zero => rfl
        | succ n => rw [q] at e1; simp at e1
      have hji : j = i := by have := hJ.1; lia
      rw [hj0] at e1
      obtain rfl := Option.some.inj (show some (Value.ref a) = some v from e1)
      rw [hji, List.getElem?_map, hxi] at e2
      obtain rfl := Option.some.inj (show some ((x.length : Int), x) = some p from e2)
      obtain ⟨a', o, t1, t2, n, ea, ho, r⟩ := hpa
      exact ⟨a', o, t1, t2, n, ea, by cases ea; exact haX, ho, r⟩
  · intro ys h' tk' e hJ hD hk
    refine h _ ys h' tk' e (fun b o q => hk b o (fun z => ne b o q (List.mem_singleton.mp z)) (hk3 b o q)) (Heap.get?_none_of_le (by rw [hs3]; exact Nat.le_succ _)) hD (by rw [hJ.1, htl]) fun j v p e1 e2 => ?_
    obtain ⟨a', o, t1, t2, n, ea, _, ho, r⟩ := hJ.2 j v p e1 e2
    exact ⟨a', o, t1, t2, n, ea, by simp, ho, r⟩
end

theorem slicePick_to (vs : List Value) (n : Nat) : slicePick vs.toArray none (some (n : Int)) none = (vs.take n).toArray := by
  by_cases hn : n ≤ vs.length
  · rw [slicePick_upto vs.toArray n (by simpa using hn)]
  · have h1 := slicePick_upto vs.toArray vs.length (by simp)
    have e : sliceBounds none (some (n : Int)) none vs.toArray.size = sliceBounds none (some (vs.length : Int)) none vs.toArray.size := by
      simp only [sliceBounds, Option.getD_none]
      have h2 : ¬ ((n : Int) < 0) := by lia
      have h3 : ¬ ((vs.length : Int) < 0) := by lia
      simp only [h2, h3, if_false, show (1 : Int) > 0 by decide, if_true, List.size_toArray]
      congr 1
      congr 1; lia
    have : slicePick vs.toArray none (some (n : Int)) none = slicePick vs.toArray none (some (vs.length : Int)) none := by
      unfold slicePick; rw [e]
    rw [this, h1, List.take_of_length_le (Nat.le_refl _), List.take_of_length_le (by lia)]
inductive ListGot (n : Nat) (Q : Value → Shared → Prop) (v : Value) (s' : Shared) : Prop
  | mk (l : Addr) (vs : List Value) (e : Nat) (h1 : Heap) (gs : Array GenState) (d1 : Drawn) (tk1 : Tok) (os : OsState) (ev : v = .ref l) (es : s' = (⟨h1, gs, d1, tk1, os⟩ : Shared)) (hl : h1.get? l = some (lo vs e)) (hn : vs.length ≤ 10000)
      (k : ∀ h' D tk', (∀ c o, h1.get? c = some o → h'.get? c = some o) → h1.get? D = none → h'.get? D = some (lo (vs.take n) 0) → Q (.ref D) ⟨h', gs, d1, tk', os⟩)
section
variable {prog : Program} {w : World} {A : Around} {E : Value → Shared → Prop} {s : Shared}
/-- value[:n] of a list -/
theorem slice_upto {env : Env} {value : Expr} {n k : Nat} {p1 p2 p3 : Pos} {Q : Value → Shared → Prop}
    (h : wpAny (model prog w) A (eval value env) (ListGot n Q) E s) :
    wpAny (model prog w) A (eval (.Subscript value (.Slice none (some (.Constant (.int (n : Int)) k p1)) none p2) p3) env) Q E s := by
  refine Subscript_ (wpAny_mono h (fun v s' hv => ?_) fun _ _ x => x)
  obtain ⟨l, vs, e, h1, gs, d1, tk1, os, rfl, rfl, hl, hsz, hq⟩ := hv
  refine wpAny_Slice (evalPart_none_step (evalPart_some_step (constI fun t1 k1 => evalPart_none_step ?_)))
  have hli : h1.IsList l vs.toArray := ⟨_, hl, rfl, _, rfl⟩
  dsimp only
  refine tail_any (s := ⟨h1.push { cls := .type "slice", data := .fields #[.none, .int (n : Int) t1, .none] }, gs, d1, k1, os⟩) (Heap.IsList.typeIs (hli.push _)) list_getitem_lookup
    (wpAny_getItem_list_slice (hli.push _) (Heap.IsSliceOf.new ..) .none (.int _ _) .none (by simp) ?_ (by rw [List.size_toArray, sizeLine_eq]; lia)) (by with_unfolding_all rfl)
  refine hq _ _ _ (fun c o q => Heap.get?_push_of_some _ (Heap.get?_push_of_some _ q)) (Heap.get?_none_of_le (by rw [Heap.size_push]; exact Nat.le_succ _)) ?_
  rw [slicePick_to]
  exact Heap.get?_push_size _ rfl
end

inductive PairsGot (Q : Value → Shared → Prop) (v : Value) (s' : Shared) : Prop
  | mk (lt : Addr) (zs : List Z) (e : Nat) (h1 : Heap) (gs : Array GenState) (d1 : Drawn) (tk1 : Tok) (os : OsState) (ev : v = .ref lt) (es : s' = (⟨h1, gs, d1, tk1, os⟩ : Shared)) (hl : h1.get? lt = some (lo (zs.map (·.1)) e)) (hz : ∀ z ∈ zs, IsPair h1 z.1 z.2) (hn : zs.length ≤ 100)
      (k : ∀ D ys h' tk' e', (∀ b o, h1.get? b = some o → h'.get? b = some o) → h'.get? D = some (lo ys e') → StrsAre ys (zs.map (·.2.2)) → Q (.ref D) ⟨h', gs, d1, tk', os⟩)
section
variable {prog : Program} {w : World} {A : Around} {E : Value → Shared → Prop} {s : Shared}
/-- [pair[1] for pair in ...] -/
theorem last_comp {env : Env} {scope : Scope} {iter : Expr} {px p1 p2 p3 pos : Pos} {Q : Value → Shared → Prop} (hh : A.handled = none)
    (hclos : closureFor scope env = pure []) (hcell : ∀ y ∈ scope.names, y.2 ≠ .cell) (hkind : scope.kind = .function)
    (hnames : ∀ y ∈ scope.names, y.2 = .local → scope.names.lookup y.1 = some .local) (hx : scope.names.lookup (Str.ofString "pair") = some .local)
    (hfold : ∀ x, foldedSetIterable iter env x = pure x)
    (hsrc : wpAny (model prog w) A (eval iter env) (PairsGot Q) E s) :
    wpAny (model prog w) A (eval (.ListComp (.Subscript (.Name (Str.ofString "pair") p1) (.Constant (.int 1) 0 p2) p3) [⟨.Name (Str.ofString "pair") px, iter, [], 0⟩] scope pos) env) Q E s := by
  refine comp_eval hclos hcell hkind hnames hx (wpAny_mono hsrc (fun v s' hv => ?_) fun _ _ x => x) hfold
  obtain ⟨lt, zs, e, hp, gs, dr, tk, os, rfl, rfl, hlt, hz, hn, h⟩ := hv
  refine wpAny_pyIter_list (s := ⟨hp, gs, dr, tk, os⟩) (⟨_, hlt, rfl, _, rfl⟩ : hp.IsList lt (zs.map (·.1)).toArray) ?_
  dsimp only
  have hit : (hp.push { cls := .type "list_iterator", data := .fields #[.ref lt, .int 0 0] }).IsListIter hp.objs.size lt 0 := ⟨_, Heap.get?_push_size _ rfl, rfl, rfl⟩
  generalize hh3 : hp.push { cls := .type "list_iterator", data := .fields #[.ref lt, .int 0 0] } = h3 at *
  have hk3 : ∀ b o, hp.get? b = some o → h3.get? b = some o := fun b o e => hh3 ▸ Heap.get?_push_of_some _ e
  have hs3 : h3.objs.size = hp.objs.size + 1 := by rw [← hh3, Heap.size_push]
  have ne : ∀ b o, hp.get? b = some o → b ≠ hp.objs.size := fun b o e => Nat.ne_of_lt (Heap.lt_size e)
  have W := Walks.list (prog := prog) (w := w) (A := A) hh hp.objs.size lt (ne _ _ hlt) (zs.map (·.1)).toArray
  have hsz : (zs.map (·.1)).toArray.size = zs.length := by simp
  rw [hsz] at W
  refine ⟨hp.objs.size, _, _, zs.length, _, _, fun i ys h => StrsAre ys ((zs.take i).map fun z : Z => z.2.2), rfl, W, by lia, ⟨hit, ⟨_, hk3 _ _ hlt, rfl, _, rfl⟩⟩, ?_, ⟨fun _ _ => .nil, fun i ys h h' a _ => a, ?_⟩, ?_⟩
  · intro b hb
    rw [hs3]
    rcases List.mem_cons.mp hb with rfl | hb
    · exact Nat.lt_succ_self _
    · rw [List.mem_singleton.mp hb]; exact Nat.lt_succ_of_lt (Heap.lt_size hlt)
  · rintro i v ys h' tk' m hi hP hJ hns hm _ hk _
    rw [List.getElem?_toArray, List.getElem?_map, List.getElem?_eq_getElem hi] at hP
    obtain rfl := Option.some.inj hP
    have keep : ∀ b o, hp.get? b = some o → h'.get? b = some o := fun b o e => hk b o (fun q => ne b o e (List.mem_singleton.mp q)) (hk3 b o e)
    obtain ⟨a, o, t, u, n, ea, ho, hc, hd⟩ := hz zs[i] (List.getElem_mem hi)
    have hm' : m (Str.ofString "pair") = some (.ref a) := hm.trans (congrArg some ea)
    show wpAny _ _ (forIn [] true _) _ _ _
    rw [List.forIn_nil]
    refine wpAny_pure ?_
    refine itT rfl ?_
    refine Subscript_ (ldNs hns hm' (constI fun t1 k1 => item_tupleT (s := ⟨h', gs, dr, k1, os⟩) (j := 1) ⟨o, keep _ _ ho, hc, n, hd⟩ (by decide) (by decide) rfl rfl ⟨h', k1, rfl, fun _ _ e => e, ?_⟩) rfl (by simp [compEnvC, relabel, hkind]) (lookup_relabel_local hx))
    rw [List.take_add_one, List.getElem?_eq_getElem hi, Option.toList_some, List.map_append]
    exact strsAre_snoc hJ _ _
  · intro ys h' tk' e' hJ hD hk
    rw [List.take_length] at hJ
    exact h _ ys h' tk' e' (fun b o q => hk b o (fun z => ne b o q (List.mem_singleton.mp z)) (hk3 b o q)) hD hJ
end

theorem ltP_ne {p q : Int × Str} (h : ltP p q = true) : p ≠ q := by
  rintro rfl
  unfold ltP at h
  rw [if_pos rfl] at h
  exact List.lt_irrefl _ (of_decide_eq_true h)
noncomputable def duePairs (ps : List Nat) (r : Nat) : List (Int × Str) := ((ordN (might r 4) 3).map (textOf ps)).map fun x => ((x.length : Int), x)
inductive DueQ (gs : Array GenState) (dr : Drawn) (os : OsState) (hp : Heap) (L mi pl : Addr) (mvs : List Value) (em : Nat) (ks : List Int) (fl : Flow) (s' : Shared) : Prop
  | mk (e : fl = .next) (h' : Heap) (tk : Nat) (m' : Str → Option Value) (es : s' = (⟨h', gs, dr, tk, os⟩ : Shared)) (F : Fr hp L h' m') (j : LoopJ [L] (L + 1) (L + 1 + 1 + 1) mi pl mvs em ks 3 m' h')
section
variable {prog : Program} {w : World} {A : Around} {E : Value → Shared → Prop} {s : Shared}
theorem due_spec {mg mb : Str → Option Value} {R : Result → Shared → Prop} {pl : Addr} {pvs : List Value} {ep r : Nat} {ps : List Nat} {tr : Tok}
    (S : Site w mg mb s.heap) (hroom : A.depth + 1 < recursionLimit) (hh : A.handled = none) (hu : A.units + 40 < cLine) (hpl : s.heap.get? pl = some (lo pvs ep)) (hps : IntsAre pvs (ps.map Int.ofNat)) (hp6 : ∀ p ∈ ps, p < 6) (hp4 : ps.length ≤ 4) (hr : r < 16)
    (hD : ∀ qs : List (Int × Str), qs.Nodup → (∀ q ∈ qs, q ∈ duePairs ps r) → qs.length < 64)
    (h : ∀ (qs : List (Int × Str)) h' d tk D ys e, qs.Pairwise (fun p q => ltP p q = true) → (∀ p, p ∈ qs ↔ p ∈ duePairs ps r) → Kept [] s.heap h' → h'.get? D = some (lo ys e) → StrsAre ys ((qs.take 4).map (·.2)) → R (.ok (.ret (.ref D))) { s with heap := h', drawn := d, toks := tk }) :
    codeAny (model prog w) A (.call (.ref 150) ⟨[.ref pl, .int r tr], []⟩) R s := by
  refine enterCX (binds := [(Str.ofString "places", .ref pl), (Str.ofString "rights", .int r tr)]) S (by rfl) (by rfl) (less0 hroom) rfl ?_ fun h₁ A' m0 tk T hdA huA hhA F hcells hTT => ?_
  · intro n x hx
    simp only [List.mem_cons, List.not_mem_nil, or_false] at hx
    rcases hx with rfl | rfl <;> exact .inr ⟨rfl, rfl⟩
  have hc1 : h₁.IsCell (s.heap.objs.size + 1) (some (.ref pl)) := hcells (Str.ofString "places") _ rfl
  have hc2 : h₁.IsCell (s.heap.objs.size + 1 + 1) (some (.int r tr)) := hcells (Str.ofString "rights") _ rfl
  have hc3 : h₁.IsCell (s.heap.objs.size + 1 + 1 + 1) none := hcells (Str.ofString "might") _ rfl
  clear hcells
  replace hhA := hhA.trans hh
  have hdp : A'.depth < recursionLimit := by rw [hdA]; exact hroom
  have hun : A'.units + 37 < cLine := by rw [huA]; exact hu
  obtain ⟨hp, gs, dr, tk0, os⟩ := s
  dsimp only at *
  refine wpAny_execs_cons ?_
  with_reducible refine wpAny_Assign_Name ?hh1 ?hh2
  case hh2 => rfl
  refine might_comp (s := ⟨h₁, gs, dr, tk, os⟩) (r := r) (tr := tr) hhA hr rfl (by decide) rfl (by decide) rfl rfl rfl hc2 ?hrange ?_
  case hrange =>
    intro Q E hq
    exact nameX_B F S.X S.T (by rfl) boot_range (by decide) hq
  intro mi mvs h2 tk2 em hmi homi hmvs K2
  dsimp only at *
  refine wpAny_storeName_cell (c := hp.objs.size + 1 + 1 + 1) rfl rfl rfl (hc3.keeps K2) fun h3 hc3' hs3 => ?_
  have K3 : ∀ b o, b ≠ hp.objs.size + 1 + 1 + 1 → h₁.get? b = some o → h3.get? b = some o := fun b o hb e => (hs3.2 b hb).trans (K2 b o e)
  have nlt : ∀ b o, hp.get? b = some o → b ≠ hp.objs.size + 1 + 1 + 1 := fun b o e => Nat.ne_of_lt (Nat.lt_succ_of_lt (Nat.lt_succ_of_lt (Nat.lt_succ_of_lt (Heap.lt_size e))))
  have F3 : Fr hp hp.objs.size h3 m0 :=
    ⟨keepsNs F.ns fun o e => K3 _ o (Nat.ne_of_lt (Nat.lt_succ_of_lt (Nat.lt_succ_of_lt (Nat.lt_succ_self _)))) e, fun b o e => K3 b o (nlt b o e) (F.keep b o e), F.above⟩
  have homi3 : h3.get? mi = some (lo mvs em) := (hs3.2 mi fun q => by
    obtain ⟨o, ho, _⟩ := hc3
    rw [← q, hmi] at ho; cases ho).trans homi
  have hc13 : h3.IsCell (hp.objs.size + 1) (some (.ref pl)) := (hc1.keeps K2).sameBut hs3 (Nat.ne_of_lt (Nat.lt_succ_of_lt (Nat.lt_succ_self _)))
  have keep3 : ∀ b o, hp.get? b = some o → h3.get? b = some o := F3.keep
  generalize hks : (might r 4).map Int.ofNat = ks at *
  have hms : mvs.length = ks.length := hmvs.length
  have hml : ks.length ≤ 4 := by rw [← hks, List.length_map]; exact List.length_filter_le _ _
  generalize hL : hp.objs.size = L at *
  have nmL : mi ≠ L := fun q => by
    obtain ⟨o, _, _, ho, _⟩ := F.ns
    rw [q, ho] at hmi; cases hmi
  -- orders = [[]]
  refine wpAny_execs_cons ?_
  with_reducible refine wpAny_Assign_Name ?ha1 ?ha2
  case ha2 => rfl
  refine List_ (spliced_more (List_ (spliced_none (newO (by simp) fun h4 r4 K4 o4 n4 => spliced_none (newO (by simp) fun h5 od K5 o5 n5 => ?_)))))
  have F5 := F3.kept fun b o e => K5 b o (K4 b o e)
  refine stE F5 fun h6 k6 F6 K6 => ?_
  -- latest = [[]]
  refine wpAny_execs_cons ?_
  with_reducible refine wpAny_Assign_Name ?hb1 ?hb2
  case hb2 => rfl
  refine List_ (spliced_more (List_ (spliced_none (newO (by simp) fun h7 r7 K7 o7 n7 => spliced_none (newO (by simp) fun h8 la K8 o8 n8 => ?_)))))
  have F8 := F6.kept fun b o e => K8 b o (K7 b o e)
  refine stE F8 fun h9 k9 F9 K9 => ?_
  -- for size in range(3)
  have neL : ∀ (h : Heap) (b : Addr) m, Fr hp L h m → h.get? b = none → b ≠ L := fun h b m F hn q => by
    obtain ⟨o, _, _, ho, _⟩ := F.ns
    rw [q, ho] at hn; cases hn
  have r4L := neL _ _ _ F3 n4
  have odL := neL _ _ _ (F3.kept K4) n5
  have r7L := neL _ _ _ F6 n7
  have laL := neL _ _ _ (F6.kept K7) n8
  have up6 : ∀ b o, b ≠ L → h5.get? b = some o → h9.get? b = some o := fun b o hb e => K9 b o hb (K8 b o (K7 b o (K6 b o hb e)))
  have up3 : ∀ b o, b ≠ L → h3.get? b = some o → h9.get? b = some o := fun b o hb e => up6 b o hb (K5 b o (K4 b o e))
  have q4 := up6 _ _ r4L (K5 _ _ o4)
  have qo := up6 _ _ odL o5
  have q7 := K9 _ _ r7L (K8 _ _ o7)
  have ql := K9 _ _ laL o8
  have qm := up3 _ _ nmL homi3
  have c1L : L + 1 ≠ L := Nat.succ_ne_self _
  have c3L : L + 1 + 1 + 1 ≠ L := fun q => by have : L < L + 1 + 1 + 1 := Nat.lt_succ_of_lt (Nat.lt_succ_of_lt (Nat.lt_succ_self _)); rw [q] at this; exact Nat.lt_irrefl _ this
  have qc1 : h9.IsCell (L + 1) (some (.ref pl)) := by obtain ⟨o, ho, hd⟩ := hc13; exact ⟨o, up3 _ _ c1L ho, hd⟩
  have qc3 : h9.IsCell (L + 1 + 1 + 1) (some (.ref mi)) := by obtain ⟨o, ho, hd⟩ := hc3'; exact ⟨o, up3 _ _ c3L ho, hd⟩
  clear hc3' hc13 hs3 K2 K3 K4 K5 K6 K7 K8 K9 o4 o5 o7 o8 n4 n5 n7 n8 F3 F5 F6 F8 up3 up6 homi3 homi hmi hc1 hc2 hc3
  refine wpAny_execs_cons (wpAny_mono (Q := DueQ gs dr os hp L mi pl mvs em ks) (E := fun _ _ => False) ?loop ?rest fun _ _ x => x)
  case loop =>
    refine wpAny_For (Call_ (nameX_B F9 S.X S.T (by rfl) boot_range (by decide) (Pv.callWith_type1 (spliced_more (constI fun t0 k0 => spliced_none (call_range_1 ?_))))))
    have F10 := F9.push ({ cls := .type "range", data := .fields #[.int 0 k0, .int 3 t0, .int 1 (k0 + 1)] } : Obj)
    have hr3 := IsRange.new h9 0 3 1 k0 t0 (k0 + 1)
    have K10 : ∀ b o, h9.get? b = some o → (h9.push ({ cls := .type "range", data := .fields #[.int 0 k0, .int 3 t0, .int 1 (k0 + 1)] } : Obj)).get? b = some o := fun b o e => Heap.get?_push_of_some _ e
    dsimp only
    generalize h9.push ({ cls := .type "range", data := .fields #[.int 0 k0, .int 3 t0, .int 1 (k0 + 1)] } : Obj) = h10 at *
    have neI : ∀ b o, h9.get? b = some o → b ≠ h10.objs.size := fun b o e => Nat.ne_of_lt (Heap.lt_size (K10 b o e))
    refine for_rangeE (s := ⟨h10, gs, dr, _, os⟩) (n := 3) (fun i m h => LoopJ [h10.objs.size, L] (L + 1) (L + 1 + 1 + 1) mi pl mvs em ks i m h) hhA hr3 (by decide) (by decide) F10 ?_ ?_ ?_ ?_
    · have nX : ∀ b o, b ≠ L → h9.get? b = some o → b ∉ [h10.objs.size, L] := fun b o hb e => notTwo (neI b o e) hb
      obtain ⟨oa, pa, da⟩ := qc1
      obtain ⟨ob, pb, db⟩ := qc3
      exact ⟨⟨la, _, 0, rfl, nX _ _ laL ql, K10 _ _ ql, Rows.one ⟨r7, 0, [], rfl, nX _ _ r7L q7, K10 _ _ q7, .nil⟩⟩, ⟨od, _, 0, rfl, nX _ _ odL qo, K10 _ _ qo, Rows.one ⟨r4, 0, [], rfl, nX _ _ r4L q4, K10 _ _ q4, .nil⟩⟩,
        nX _ _ nmL qm, K10 _ _ qm, nX _ _ c1L pa, ⟨oa, K10 _ _ pa, da⟩, nX _ _ c3L pb, ⟨ob, K10 _ _ pb, db⟩⟩
    · intro i m h h' j hk
      exact j.stab fun b o hb e => hk b o (fun q => hb (by rw [q]; simp)) (fun q => hb (by rw [q]; simp)) e
    · intro i t' m1 h tk' hi j hI F1
      have hIL : h10.objs.size ≠ L := Nat.ne_of_gt F10.ns.lt
      refine due_turn (I := h10.objs.size) hhA rfl rfl rfl rfl rfl rfl (by decide) rfl (by decide) rfl rfl rfl (by intro _ _; rfl) (by intro _; rfl) hmvs hml hi hIL F1 hI (j.congr rfl rfl) fun h' tk2 m' F' j' hk' => ?_
      exact ⟨h', tk2, m', rfl, F', j', fun b hb o e => hk' b o (by rw [List.mem_singleton.mp hb]; exact hIL) e⟩
    · intro h tk' m j F1
      exact ⟨rfl, h, tk', m, rfl, F1, j.more fun a ha q => ha (by rw [List.mem_singleton.mp q]; simp)⟩
  case rest =>
    rintro fl s' ⟨rfl, h', tk', m', rfl, F', j'⟩
    clear qc1 qc3 q4 qo q7 ql qm F9
    obtain ⟨od', ov, e2, b1, b2, b3, b4⟩ := j'.ord
    have hol : ov.length ≤ 85 := by rw [b4.1]; exact ord_len hml 3 (Nat.le_refl _)
    have odL' : od' ≠ L := fun q => b2 (List.mem_singleton.mpr q)
    -- texts = [...]
    refine wpAny_execs_cons (comp_evalC (cl := [(Str.ofString "places", L + 1)]) (x := Str.ofString "row") (g := hp) (m := m') rfl rfl rfl rfl (by decide) rfl rfl rfl ?src)
    refine ldNs F'.ns b1 ?_
    refine wpAny_pyIter_list (s := ⟨h', gs, dr, tk', os⟩) (⟨_, b3, rfl, _, rfl⟩ : h'.IsList od' ov.toArray) ?_
    dsimp only
    have hit : (h'.push { cls := .type "list_iterator", data := .fields #[.ref od', .int 0 0] }).IsListIter h'.objs.size od' 0 := ⟨_, Heap.get?_push_size _ rfl, rfl, rfl⟩
    have F'' := F'.push { cls := .type "list_iterator", data := .fields #[.ref od', .int 0 0] }
    generalize hh3 : h'.push { cls := .type "list_iterator", data := .fields #[.ref od', .int 0 0] } = h3' at *
    have hk3 : ∀ b o, h'.get? b = some o → h3'.get? b = some o := fun b o e => hh3 ▸ Heap.get?_push_of_some _ e
    have hs3 : h3'.objs.size = h'.objs.size + 1 := by rw [← hh3, Heap.size_push]
    have ne : ∀ b o, h'.get? b = some o → b ≠ h'.objs.size := fun b o e => Nat.ne_of_lt (Heap.lt_size e)
    have W : ∀ A' : Around, A'.handled = none → Walks prog w A' h'.objs.size [h'.objs.size, od'] [h'.objs.size] ov.length (fun i v => ov.toArray[i]? = some v) (fun i h => h.IsListIter h'.objs.size od' i ∧ h.IsList od' ov.toArray) := fun A' hA => by
      have := Walks.list (prog := prog) (w := w) (A := A') hA h'.objs.size od' (ne _ _ b3) ov.toArray
      rwa [List.size_toArray] at this
    refine ⟨h'.objs.size, _, _, ov.length, _, _, fun i ys h => StrsAre ys (((ordN (might r 4) 3).take i).map (textOf ps)), rfl, W _ hhA, by lia, ⟨hit, ⟨_, hk3 _ _ b3, rfl, _, rfl⟩⟩, ?_, ?_, F'', ?_, fun _ _ => .nil, fun i ys h h' a _ => a, ?_, ?_⟩
    · intro b hb
      rw [hs3]
      rcases List.mem_cons.mp hb with rfl | hb
      · exact Nat.lt_succ_self _
      · rw [List.mem_singleton.mp hb]; exact Nat.lt_succ_of_lt (Heap.lt_size b3)
    · intro q
      exact Nat.ne_of_lt F'.ns.lt (List.mem_singleton.mp q)
    · intro b hb
      rw [List.mem_singleton.mp hb]
      exact next_is_new F'
    · rintro i v ys h tk2 m2 hi hP hJ hcv hns _ hk
      rw [List.getElem?_toArray] at hP
      have keep : ∀ b o, h'.get? b = some o → h.get? b = some o := fun b o e => hk b o (fun q => ne b o e (List.mem_singleton.mp q)) (hk3 b o e)
      have e0 := ord_nat (might r 4) 3
      rw [hks] at e0
      have hil : i < (ordN (might r 4) 3).length := by
        have h1 := b4.1
        rw [e0, List.length_map] at h1
        lia
      have hrow := b4.2 i v (((ordN (might r 4) 3)[i]).map Int.ofNat) hP (by rw [e0, List.getElem?_map, List.getElem?_eq_getElem hil]; rfl)
      obtain ⟨a, er, vs, rfl, haL, hga, hia⟩ := hrow
      have hok := ordN_ok (ks := might r 4) (fun k hk => List.mem_range.mp (List.mem_filter.mp hk).1) 3 _ (List.getElem_mem hil)
      show wpAny _ _ (forIn [] true _) _ _ _
      rw [List.forIn_nil]
      refine wpAny_pure ?_
      with_reducible refine itT ?hc ?_
      case hc => rfl
      have S1 : Site w mg mb h := S.keeps fun b o e => keep b o (F'.keep b o e)
      with_reducible refine join_call (pl := ?pl) (xs := ps.map fun p => spell p (ordN (might r 4) 3)[i]) ?hn (fun x hx => ?_) (fun tk3 => ?_) ?he
      case hn => rw [List.length_map]; lia
      case he => rfl
      · obtain ⟨p, hp', rfl⟩ := List.mem_map.mp hx
        exact spell_small r hr _ (List.getElem_mem hil) p (hp6 p hp')
      · refine spell_comp (cp := L + 1) (cr := h3'.objs.size + 1 + 1) (pl := pl) (a := a) (ps := ps) (ws := (ordN (might r 4) 3)[i]) S1 hdp hhA rfl rfl rfl rfl (j'.oc1.keeps keep) (keep _ _ (F'.keep _ _ hpl)) hps hp6 hp4 hcv (keep _ _ hga) hia hok.2 hok.1 rfl (by decide) rfl (by decide) rfl rfl rfl (by intro _; rfl) fun D zs h4' tk4 e4 K4' oD hzs => ?_
        refine ⟨D, zs, e4, h4', tk4, rfl, rfl, oD, hzs, fun t' tk5 => ⟨h4', tk5, rfl, K4', ?_⟩⟩
        show StrsAre _ (((ordN (might r 4) 3).take (i + 1)).map (textOf ps))
        rw [List.take_add_one, List.getElem?_eq_getElem hil, Option.toList_some, List.map_append]
        exact strsAre_snoc hJ _ _
    · intro ys hT kT eT hJ hD' F1 hk
      have e0 := ord_nat (might r 4) 3
      rw [hks] at e0
      have hol2 : ov.length = (ordN (might r 4) 3).length := by
        have h1 := b4.1
        rw [e0, List.length_map] at h1
        exact h1
      have hJ' : StrsAre ys ((ordN (might r 4) 3).map (textOf ps)) := by
        have : StrsAre ys (((ordN (might r 4) 3).take ov.length).map (textOf ps)) := hJ
        rw [hol2, List.take_length] at this
        exact this
      have SS : Site w mg mb hT := S.keeps F1.keep
      have hn85 : ((ordN (might r 4) 3).map (textOf ps)).length ≤ 1000 := by rw [List.length_map, ← hol2]; lia
      have hsml : ∀ x ∈ (ordN (might r 4) 3).map (textOf ps), x.length ≤ 1000000 := fun x hx => by
        obtain ⟨ws, hws, rfl⟩ := List.mem_map.mp hx
        have h1 : ∀ y ∈ ps.map (fun p => spell p ws), y.length ≤ 100 := fun y hy => by
          obtain ⟨p, hp', rfl⟩ := List.mem_map.mp hy
          exact spell_small r hr _ hws p (hp6 p hp')
        have h2 := joinE_len h1
        rw [List.length_map] at h2
        show (joinE _).length ≤ _
        lia
      refine wpAny_execs_cons (wpAny_Return_some (last_comp hhA rfl (by decide) rfl (by decide) rfl (by intro _; rfl) ?_))
      refine slice_upto (n := 4) ?_
      refine Call_ (nameX_B F1 S.X S.T (by rfl) boot_sorted (by decide) (callWith_builtin1 (spliced_more (Call_ (nameX_B F1 S.X S.T (by rfl) boot_set (by decide) (Pv.callWith_type1 (spliced_more ?_)))))))
      refine pair_comp (xs := (ordN (might r 4) 3).map (textOf ps)) SS hhA rfl rfl (fun Q E hq => ldNs F1.ns rfl hq) hD' hJ' hn85 hsml rfl (by decide) rfl (by decide) rfl rfl (by intro _; rfl) fun D2 ys2 h2 tk2 e2 K2 n2 o2 l2 pr2 => ?_
      refine spliced_none (call_set (s := ⟨h2, gs, dr, tk2, os⟩) (ps := duePairs ps r) hhA (lessN hun) o2 (by rw [l2]; simp [duePairs]) pr2 hD fun h5 tk5 K5 set5 => ?_)
      refine spliced_none (sorted_set (s := ⟨h5, gs, dr, tk5, os⟩) hhA set5 hD fun zs D6 h6 d6 e6 n6 srt mem6 K6 o6 pr6 => ?_)
      have hzl : zs.length < 64 := by
        have := hD (zs.map (fun z : Z => z.2)) (List.Pairwise.imp (fun h => ltP_ne h) srt) fun q hq => (mem6 q).mp hq
        rwa [List.length_map] at this
      refine ⟨D6, _, e6, h6, gs, d6, tk5, os, rfl, rfl, o6, by rw [List.length_map]; lia, fun h7 D7 tk7 K7 n7 o7 => ?_⟩
      refine ⟨D7, zs.take 4, 0, h7, gs, d6, tk7, os, rfl, rfl, by rw [List.map_take]; exact o7, fun z hz => ((pr6 z (List.mem_of_mem_take hz)).pair).keeps K7, by rw [List.length_take]; lia, fun D8 ys8 h8 tk8 e8 K8 o8 str8 => ?_⟩
      refine hTT _ _ (h (zs.map (·.2)) h8 d6 tk8 D8 ys8 e8 srt mem6 (fun b o _ e => K8 b o (K7 b o (K6 b o (K5 b o (K2 b o (F1.keep b o e)))))) o8 ?_)
      rw [← List.map_take, List.map_map]
      exact str8
end
end Mine

section
open AutoSeq1 (wpAny_loadPart')
namespace Mine
section
variable {prog : Program} {w : World} {A : Around} {E : Value → Shared → Prop} {s : Shared}
theorem nextOf_tuple_item {it t : Addr} {i : Nat} {items : Array Value} {x : Value} {Q : Value → Shared → Prop} (hit : s.heap.IsTupleIter it t i)
    (ht : s.heap.IsTuple t items) (hx : items[i]? = some x)
    (hQ : ∀ h', h'.IsTupleIter it t (i + 1) → Heap.SameBut it s.heap h' → Q x { s with heap := h' }) :
    wpAny (model prog w) A (Builtin.SmallTypes.nextOf (.ref it)) Q E s := by
  obtain ⟨o, ho, hc, hd⟩ := id hit
  obtain ⟨ol, hol, _, nl, hdl⟩ := ht
  unfold Builtin.SmallTypes.nextOf
  refine wpAny_bind (wpAny_callSpecial?_slot (name := Str.ofString "__next__") hit.typeIs F.slot_tuple_iterator_next
    (wpAny_call_entry F.slot_tuple_iterator_next hit.typeIs F.entry_tuple_iterator_next ?_ (F.args_tuple_iterator_next_1 _)))
  show wpAny _ _ (field (.ref it) 0 >>= _) _ _ s
  refine wpAny_bind (wpAny_field ho hd (x := .ref t) rfl ?_)
  show wpAny _ _ (if (Value.ref t == Value.none) = true then _ else _) _ _ s
  rw [if_neg (show ¬ ((Value.ref t == Value.none) = true) from Bool.false_ne_true)]
  show wpAny _ _ (field (.ref it) 1 >>= _) _ _ s
  refine wpAny_bind (wpAny_field ho hd (x := .int i 0) rfl ?_)
  show wpAny _ _ (seqItems? (.ref t) >>= _) _ _ s
  refine wpAny_bind (wpAny_seqItems hol hdl ?_)
  simp only [Int.toNat_natCast, hx]
  refine wpAny_bind (wpAny_setField ho hd (by simp) (wpAny_pure ⟨x, rfl, wpAny_pure (hQ _ ?_ (Heap.SameBut.update ..))⟩))
  exact ⟨_, Heap.get?_update_self _ ho (Obj.isFreed_of_fields (Obj.data_mapFields hd _)), (Obj.cls_mapFields ..).trans hc, by
    rw [Obj.data_mapFields hd]; simp [rawInt]⟩
theorem nextOf_tuple_end {it t : Addr} {i : Nat} {items : Array Value} {Q : Value → Shared → Prop} (hh : A.handled = none)
    (hit : s.heap.IsTupleIter it t i) (ht : s.heap.IsTuple t items) (hx : items[i]? = none)
    (hE : ∀ h' e, Heap.ExtBut it s.heap h' → (∃ o, h'.get? e = some o ∧ o.cls = .type "StopIteration") → E (.ref e) { s with heap := h' }) :
    wpAny (model prog w) A (Builtin.SmallTypes.nextOf (.ref it)) Q E s := by
  obtain ⟨o, ho, hc, hd⟩ := id hit
  obtain ⟨ol, hol, _, nl, hdl⟩ := ht
  unfold Builtin.SmallTypes.nextOf
  refine wpAny_bind (wpAny_callSpecial?_slot (name := Str.ofString "__next__") hit.typeIs F.slot_tuple_iterator_next
    (wpAny_call_entry F.slot_tuple_iterator_next hit.typeIs F.entry_tuple_iterator_next ?_ (F.args_tuple_iterator_next_1 _)))
  show wpAny _ _ (field (.ref it) 0 >>= _) _ _ s
  refine wpAny_bind (wpAny_field ho hd (x := .ref t) rfl ?_)
  show wpAny _ _ (if (Value.ref t == Value.none) = true then _ else _) _ _ s
  rw [if_neg (show ¬ ((Value.ref t == Value.none) = true) from Bool.false_ne_true)]
  show wpAny _ _ (field (.ref it) 1 >>= _) _ _ s
  refine wpAny_bind (wpAny_field ho hd (x := .int i 0) rfl ?_)
  show wpAny _ _ (seqItems? (.ref t) >>= _) _ _ s
  refine wpAny_bind (wpAny_seqItems hol hdl ?_)
  simp only [Int.toNat_natCast, hx]
  refine wpAny_bind (wpAny_rule (wpAny_bind (wpAny_setField ho hd (by simp) ?_)))
  show wpAny _ _ (newExc (.type "StopIteration") [] >>= _) _ _ _
  refine wpAny_bind ?_
  simp only [newExc, newTuple]
  refine wpAny_bind (wpAny_newObj_type ?_ (by size_fits))
  refine wpAny_bind (m := firstArgMember _ _) (wpAny_of_eq (a := Value.none) (by first | rfl | (simp only [firstArgMember]; rfl)) ?_)
  refine wpAny_newObj_type ?_ (by size_fits)
  simp only [raiseNew]
  refine wpAny_bind (wpAny_handled ?_)
  first | rw [show A.in1.handled = none from hh] | rw [hh]
  refine wpAny_bind (wpAny_pure (wpAny_throw ?_))
  exact hE _ _ (((Heap.SameBut.update ..).extBut.push _).push _) ⟨_, Heap.get?_push_size _ rfl, rfl⟩
end
theorem draws_tuple {prog : Program} {w : World} {A : Around} (hh : A.handled = none) (it l : Addr) (hne : l ≠ it) (items : Array Value) :
    Draws prog w A it [it, l] items.size (fun i v => items[i]? = some v) (fun i h => h.IsTupleIter it l i ∧ h.IsTuple l items) where
  live := fun _ _ st => let ⟨o, ho, _⟩ := st.1; ⟨o, ho⟩
  frame := fun _ _ _ st hk => ⟨st.1.at fun o e => hk it (by simp) o e, st.2.at fun o e => hk l (by simp) o e⟩
  item := fun i s Q E hi st hQ => by
    refine nextOf_tuple_item st.1 st.2 (x := items[i]) (by simp [hi]) fun h' hit' hs' => ?_
    exact hQ _ h' s.toks (by simp [hi]) ⟨hit', st.2.extBut hs'.extBut hne⟩ hs'
  done := fun s Q E st hE => nextOf_tuple_end hh st.1 st.2 (by simp) hE

theorem enumerate_newT (l : Addr) (items : Array Value) (n : Nat) (dct : Option Addr) (sl : Array (Option Value)) :
    Meets (Builtin.«enumerate.__new__» ⟨[.type "enumerate", .ref l], []⟩) (fun _ R s => s.heap.get? l = some { cls := .type "tuple", dict := dct, data := .seq items n, slots := sl } ∧
      R (.ok (.ret (.ref (s.heap.push { cls := .type "tuple_iterator", data := .fields #[.ref l, .int 0 0] }).objs.size)))
        { s with heap := (s.heap.push { cls := .type "tuple_iterator", data := .fields #[.ref l, .int 0 0] }).push { cls := .type "enumerate", data := .fields #[.none, .bool false, .ref s.heap.objs.size, rawInt 0, .none, .none] } }) :=
  .of_wp fun prog w A R s h => by
    obtain ⟨hp, g, d, tk, os⟩ := s; obtain ⟨hl, h⟩ := h
    have hsub := sub_enumerate
    have hL : Heap.IsTuple (Shared.heap ⟨hp, g, d, tk, os⟩) l items := ⟨_, hl, rfl, n, rfl⟩
    wp_walk using wpAny_loadPart' hl
    refine wpAny_stack_any fun st => wpAny_pure ?_
    split
    · rename_i c _ _ _ _ _
      cases (c == Value.type "enumerate")
      · wp_walk using wpAny_loadPart' hl, wpAny_pyIter_tuple hL
        exact ⟨_, rfl, h⟩
      · wp_walk using wpAny_loadPart' hl, wpAny_pyIter_tuple hL
        exact ⟨_, rfl, h⟩
    · wp_walk using wpAny_loadPart' hl, wpAny_pyIter_tuple hL
      exact ⟨_, rfl, h⟩
section
variable {prog : Program} {w : World} {A : Around} {E : Value → Shared → Prop} {s : Shared}
theorem call_enumT {l : Addr} {items : Array Value} {Q : Value → Shared → Prop} (hL : s.heap.IsTuple l items)
    (h : ∀ h', IsEnum h' (s.heap.objs.size + 1) s.heap.objs.size 0 .none → h'.IsTupleIter s.heap.objs.size l 0 → h'.objs.size = s.heap.objs.size + 2 →
      (∀ b o, s.heap.get? b = some o → h'.get? b = some o) → Q (.ref (s.heap.objs.size + 1)) { s with heap := h' }) :
    wpAny (model prog w) A (call (.type "enumerate") [.ref l]) Q E s := by
  obtain ⟨⟨c, dct, dt, sl⟩, hl, hc, n, hd⟩ := hL
  replace hc : c = .type "tuple" := hc
  replace hd : dt = .seq items n := hd
  subst hc hd
  refine callType_new F.called_enumerate (by decide) (F.typeCall_enumerate_1 _) (F.newCall_enumerate_1 _) (fun obj => F.args_object_init_2 obj _) F.entry_enumerate_new
    (enumerate_newT l items n dct sl) ⟨hl, ?_⟩
  have hz : (s.heap.push { cls := .type "tuple_iterator", data := .fields #[.ref l, .int 0 0] }).objs.size = s.heap.objs.size + 1 := Heap.size_push ..
  show _ ∧ _
  rw [hz]
  have he : IsEnum ((s.heap.push { cls := .type "tuple_iterator", data := .fields #[.ref l, .int 0 0] }).push
      { cls := .type "enumerate", data := .fields #[.none, .bool false, .ref s.heap.objs.size, rawInt 0, .none, .none] }) (s.heap.objs.size + 1) s.heap.objs.size 0 .none := by
    have := Heap.get?_push_size (s.heap.push { cls := .type "tuple_iterator", data := .fields #[.ref l, .int 0 0] })
      (o := { cls := .type "enumerate", data := .fields #[.none, .bool false, .ref s.heap.objs.size, rawInt 0, .none, .none] }) rfl
    rw [hz] at this; exact this
  refine ⟨⟨_, he, rfl⟩, h _ he ⟨_, Heap.get?_push_of_some _ (Heap.get?_push_size _ rfl), rfl, rfl⟩ (by rw [Heap.size_push, hz]) fun b o x => Heap.get?_push_of_some _ (Heap.get?_push_of_some _ x)⟩

theorem letOwned_tupiter {elts : List Expr} {x1 : Nat} {pos : Pos} {I l T : Addr} {i : Nat} {Q : Unit → Shared → Prop} (hit : s.heap.IsTupleIter I l i) (hQ : Q () s) :
    wpAny (model prog w) A (letOwnedTupleGo (.Tuple elts x1 pos) (.ref I) (.ref T)) Q E s := by
  obtain ⟨o, ho, hc, hd⟩ := hit
  unfold letOwnedTupleGo
  refine wpAny_bind (wpAny_load ho ?_)
  rw [hc, hd]
  show wpAny _ A (if (["enumerate", "zip", "dict_itemiterator", "dict_reverseitemiterator", "odict_iterator", "itertools.zip_longest", "itertools.pairwise"].contains "tuple_iterator" &&
      (#[.ref l, .int i 0] : Array Value)[0]? == some (rawInt T)) = true then _ else _) Q E s
  rw [if_neg (by
    intro h
    rw [show (["enumerate", "zip", "dict_itemiterator", "dict_reverseitemiterator", "odict_iterator", "itertools.zip_longest", "itertools.pairwise"].contains "tuple_iterator") = false from by decide, Bool.false_and] at h
    cases h)]
  exact wpAny_pure hQ
end
theorem walks_tuples {prog : Program} {w : World} {A : Around} (hh : A.handled = none) (I ax : Addr) (hne : ax ≠ I) (items : Array Value) (Ts : Nat → Addr) (vals : Nat → Array Value)
    (hit : ∀ j, j < items.size → items[j]? = some (.ref (Ts j))) (hTI : ∀ j, j < items.size → Ts j ≠ I) :
    WalksU prog w A I (I :: ax :: (List.range items.size).map Ts) [I] items.size (fun j v => v = vals j)
      (fun j h => h.IsTupleIter I ax j ∧ h.IsTuple ax items ∧ ∀ k, k < items.size → h.IsTuple (Ts k) (vals k))
      (fun j T h => (j < items.size ∧ T = Ts j) ∧ h.IsTupleIter I ax (j + 1) ∧ h.IsTuple ax items ∧ ∀ k, k < items.size → h.IsTuple (Ts k) (vals k)) where
  sub := fun b hb => by simp at hb; simp [hb]
  frame := fun _ _ _ st hk => ⟨st.1.at fun o e => hk I (by simp) o e, st.2.1.at fun o e => hk ax (by simp) o e,
    fun k hk' => (st.2.2 k hk').at fun o e => hk (Ts k) (List.mem_cons_of_mem _ (List.mem_cons_of_mem _ (List.mem_map.mpr ⟨k, List.mem_range.mpr hk', rfl⟩))) o e⟩
  item := fun i s Q E hi st hQ => by
    refine wpAny_pyNext_tuple_item st.1 st.2.1 (x := .ref (Ts i)) (hit i hi) fun h' hit' hs' => ?_
    have tup : ∀ k, k < items.size → h'.IsTuple (Ts k) (vals k) := fun k hk' => (st.2.2 k hk').extBut hs'.extBut (hTI k hk')
    exact hQ (Ts i) (vals i) h' s.toks rfl (tup i hi) ⟨⟨hi, rfl⟩, hit', st.2.1.extBut hs'.extBut hne, tup⟩ fun b o hb e => hs'.extBut b o (fun h => hb (by simp [h])) e
  go := fun _ _ _ _ _ s Q _ hm hQ => letOwned_tupiter hm.2.1 (hQ s.heap hm.2 fun _ _ _ e => e)
  apart := fun j T _ hm hmem => by
    rcases List.mem_cons.mp hmem with e | e
    · exact hTI j hm.1.1 (hm.1.2 ▸ e)
    · cases e
  done := fun s Q E st hQ => wpAny_pyNext_tuple_end hh st.1 st.2.1 (by simp) fun h' he' => hQ h' s.toks fun b o hb e => he' b o (fun h => hb (by simp [h])) e
  self := fun _ _ _ _ st hQ => wpAny_pyIter_tupleiter st.1 hQ
end Mine

end
namespace Mine
theorem for_pairs {prog : Program} {w : World} {A : Around} {s : Shared} {g : Heap} {L a : Addr} {m : Str → Option Value} {qual : Str} {scope : Scope} {cd : Value} {E : Value → Shared → Prop} {Q : Flow → Shared → Prop}
    {I : Addr} {fp wr : List Addr} {n : Nat} {Pt : Nat → Array Value → Prop} {St : Nat → Heap → Prop} {Mid : Nat → Addr → Heap → Prop} {xi xv : Str} {pi pv pt : Pos} {k : Nat} {body orelse : List Stmt}
    (J : Nat → (Str → Option Value) → Heap → Prop) (hh : A.handled = none) (W : WalksU prog w A I fp wr n Pt St Mid) (hLf : L ∉ fp) (hst : St 0 s.heap) (F : Fr g L s.heap m) (hwr : ∀ b ∈ wr, g.get? b = none) (hJ : J 0 m s.heap)
    (hstab : ∀ i m h h', J i m h → (∀ b o, b ∉ wr → b ≠ L → h.get? b = some o → h'.get? b = some o) → J i m h')
    (hP : ∀ i vals, Pt i vals → ∃ v0 v1, vals = #[v0, v1])
    (turn : ∀ i v0 v1 m₁ h tk, i < n → Pt i #[v0, v1] → J i m₁ h → St (i + 1) h → Fr g L h (fun y => if y = xv then some v1 else if y = xi then some v0 else m₁ y) →
      wpAny (model prog w) A (execs body (envOf qual scope L a cd)) (TurnQ g L s fp (J (i + 1)) Q h) (fun _ _ => False) { s with heap := h, toks := tk })
    (done : ∀ h tk m, J n m h → Fr g L h m → wpAny (model prog w) A (execs orelse (envOf qual scope L a cd)) Q (fun _ _ => False) { s with heap := h, toks := tk })
    (hk : scope.kind = .function := by rfl) (hl0 : (envOf qual scope L a cd).kindOf xi = some .local := by rfl) (hl1 : (envOf qual scope L a cd).kindOf xv = some .local := by rfl) :
    codeAny (model prog w) A (.forLoop (.Tuple [.Name xi pi, .Name xv pv] k pt) (.ref I) body orelse (envOf qual scope L a cd)) (fun r s' => match r with | .ok f => Q f s' | .error e => E e s') s := by
  refine codeAny_hide fun R hR => ?_
  refine codeAny_forLoop_any (ForI g L s.gens s.drawn s.os n St J) ?_ n ⟨0, s.heap, s.toks, m, rfl, Nat.zero_le _, rfl, hst, F, hJ⟩
  rintro k' s' ⟨i, h, tk, m₁, rfl, hi, rfl, hst, F, hJ⟩
  have hLw : L ∉ wr := fun q => hLf (W.sub L q)
  have move : ∀ {h h' : Heap}, Fr g L h m₁ → J i m₁ h → (∀ b o, b ∉ wr → h.get? b = some o → h'.get? b = some o) → Fr g L h' m₁ ∧ J i m₁ h' := fun {h h'} F hJ hk => by
    obtain ⟨oL, a1, a2, hoL, a3⟩ := F.ns
    refine ⟨⟨⟨oL, a1, a2, hk L oL hLw hoL, a3⟩, fun b o e => hk b o (fun q => ?_) (F.keep b o e), F.above⟩, hstab i m₁ h h' hJ fun b o hb _ e => hk b o hb e⟩
    rw [hwr b q] at e; cases e
  have hpl : ((envOf qual scope L a cd).scope.kind == .class || ((envOf qual scope L a cd).scope.kind == .module && (envOf qual scope L a cd).locals != (envOf qual scope L a cd).globals)) = false := by
    show (scope.kind == .class || (scope.kind == .module && L != mainGlobals)) = false; rw [hk]; rfl
  by_cases hlt : i < n
  · refine W.item i _ _ _ hlt hst fun T vals h1 tk1 hPt hT hMid hk1 => ?_
    obtain ⟨F1, hJ1⟩ := move F hJ hk1
    refine W.go _ _ _ i T _ _ _ hMid fun h2 hst2 hk2 => ?_
    obtain ⟨F2, hJ2⟩ := move F1 hJ1 hk2
    have hT2 : h2.IsTuple T vals := hT.at fun o e => hk2 T o (W.apart _ _ _ hMid) e
    obtain ⟨v0, v1, rfl⟩ := hP i vals hPt
    refine wpAny_assign_Tuple (s := { s with heap := h2, toks := tk1 }) hh hT2 rfl rfl fun h3 hx3 => ?_
    replace hx3 : Heap.ExtBut h2.objs.size h2 h3 := hx3
    have up : ∀ b o, h2.get? b = some o → h3.get? b = some o := fun b o e => hx3 b o (Nat.ne_of_lt (Heap.lt_size e)) e
    obtain ⟨F3, hJ3⟩ := move F2 hJ2 fun b o _ e => up b o e
    have hst3 : St (i + 1) h3 := W.frame _ _ _ hst2 fun b _ o e => up b o e
    show wpAny _ A (do holding [v1] (assign (.Name xi pi) (envOf qual scope L a cd) v0); do holding [] (assign (.Name xv pv) (envOf qual scope L a cd) v1); pure ()) _ _ _
    refine wpAny_bind (wpAny_holding (wpAny_assign_Name (wpAny_storeName_local (s := { s with heap := h3, toks := _ }) hl0 F3.ns (fun h4 hn4 hs4 => ?_) hpl)))
    have F4 := F3.set hn4 hs4
    refine wpAny_bind (wpAny_holding (wpAny_assign_Name (wpAny_storeName_local (s := { s with heap := h4, toks := _ }) hl1 F4.ns (fun h5 hn5 hs5 => wpAny_pure ?_) hpl)))
    have F5 := F4.set hn5 hs5
    have up5 : ∀ b o, b ≠ L → h3.get? b = some o → h5.get? b = some o := fun b o hb e => (hs5.2 b hb).trans ((hs4.2 b hb).trans e)
    have hJ5 : J i m₁ h5 := hstab i m₁ h3 h5 hJ3 fun b o _ hb e => up5 b o hb e
    have hst5 : St (i + 1) h5 := W.frame _ _ _ hst3 fun b hb o e => up5 b o (fun (q : b = L) => hLf (q ▸ hb)) e
    have go : ∀ s₃, TurnN g L s.gens s.drawn s.os fp (J (i + 1)) h5 s₃ → ∃ k', k' < n - i ∧ ForI g L s.gens s.drawn s.os n St J k' s₃ := fun s₃ h₃ => by
      obtain ⟨h₃', tk₃, m', rfl, F₃, hJ₃, hk₃⟩ := h₃
      exact ⟨n - (i + 1), by lia, i + 1, h₃', tk₃, m', rfl, hlt, rfl, W.frame _ _ _ hst5 hk₃, F₃, hJ₃⟩
    refine wpAny_mono (turn i v0 v1 m₁ h5 _ hlt hPt hJ5 hst5 F5) (fun f s₃ h₃ => ?_) fun _ _ x => x.elim
    cases f with
    | next => exact go s₃ h₃
    | cont => exact go s₃ h₃
    | brk => exact hR (.ok .next) _ h₃
    | ret v => exact hR (.ok (.ret v)) _ h₃
  · obtain rfl : i = n := by lia
    refine W.done _ _ _ hst fun h' tk' hk' => ?_
    obtain ⟨F', hJ'⟩ := move F hJ hk'
    exact wpAny_mono (done h' tk' m₁ hJ' F') (fun f s' x => hR (.ok f) s' x) fun _ _ x => x.elim

theorem ifmt_spec {prog : Program} {w : World} {A : Around} {s : Shared} {mg mb : Str → Option Value} {R : Result → Shared → Prop} {mode : Int} {tm : Tok}
    (S : Site w mg mb s.heap) (hroom : A.depth < recursionLimit)
    (h : ∀ h' tk t, Kept [] s.heap h' → R (.ok (.ret (.int (Builtin.bitAnd mode 61440) t))) { s with heap := h', toks := tk }) :
    codeAny (model prog w) A (.call (.ref 56) ⟨[.int mode tm], []⟩) R s := by
  refine enterF S (by rfl) (by rfl) hroom (BindsTo.of_eq rfl) (locs rfl) fun h₁ F => ?_
  refine wpAny_execs_cons (wpAny_Return_some (wpAny_BinOp (ld F rfl (wpAny_Constant_int (and_int ?_)))))
  exact h _ _ _ (fun b o _ e => F.keep b o e)

/-- an entry of a row: its tuple's place, the bits, the sign -/
structure Ent where
  a : Addr
  bit : Int
  tb : Tok
  ch : Str
  tc : Tok
noncomputable def Ent.vals (e : Ent) : Array Value := #[.int e.bit e.tb, .str e.ch e.tc]
noncomputable def fmRows : List (Addr × List Ent) :=
  [(64, [⟨57, 40960, 243, Str.ofString "l", 271⟩, ⟨58, 49152, 245, Str.ofString "s", 272⟩, ⟨59, 32768, 239, Str.ofString "-", 273⟩, ⟨60, 24576, 237, Str.ofString "b", 274⟩, ⟨61, 16384, 233, Str.ofString "d", 275⟩, ⟨62, 8192, 235, Str.ofString "c", 276⟩, ⟨63, 4096, 241, Str.ofString "p", 277⟩]),
   (66, [⟨65, 256, 253, Str.ofString "r", 278⟩]),
   (68, [⟨67, 128, 255, Str.ofString "w", 279⟩]),
   (72, [⟨69, 2112, 280, Str.ofString "s", 281⟩, ⟨70, 2048, 247, Str.ofString "S", 282⟩, ⟨71, 64, 257, Str.ofString "x", 283⟩]),
   (74, [⟨73, 32, 259, Str.ofString "r", 284⟩]),
   (76, [⟨75, 16, 261, Str.ofString "w", 285⟩]),
   (80, [⟨77, 1032, 286, Str.ofString "s", 287⟩, ⟨78, 1024, 249, Str.ofString "S", 288⟩, ⟨79, 8, 263, Str.ofString "x", 289⟩]),
   (82, [⟨81, 4, 265, Str.ofString "r", 290⟩]),
   (84, [⟨83, 2, 267, Str.ofString "w", 291⟩]),
   (88, [⟨85, 513, 292, Str.ofString "t", 293⟩, ⟨86, 512, 251, Str.ofString "T", 294⟩, ⟨87, 1, 269, Str.ofString "x", 295⟩])]
noncomputable def entRefs (es : List Ent) : List Value := es.map fun e => .ref e.a
noncomputable abbrev tupObj (vs : Array Value) : Obj := { cls := .type "tuple", data := .seq vs }
theorem rows_ok (w : World) : ∀ row ∈ fmRows, (KK w).lookup row.1 = some (tupObj (entRefs row.2).toArray) ∧ ∀ e ∈ row.2, (KK w).lookup e.a = some (tupObj e.vals) := by
  intro row hrow
  simp only [fmRows, List.mem_cons, List.not_mem_nil, or_false] at hrow
  rcases hrow with rfl | rfl | rfl | rfl | rfl | rfl | rfl | rfl | rfl | rfl <;> refine ⟨by rfl, ?_⟩ <;> intro e he <;> simp only [List.mem_cons, List.not_mem_nil, or_false] at he
  · rcases he with rfl | rfl | rfl | rfl | rfl | rfl | rfl <;> rfl
  · rcases he with rfl; rfl
  · rcases he with rfl; rfl
  · rcases he with rfl | rfl | rfl <;> rfl
  · rcases he with rfl; rfl
  · rcases he with rfl; rfl
  · rcases he with rfl | rfl | rfl <;> rfl
  · rcases he with rfl; rfl
  · rcases he with rfl; rfl
  · rcases he with rfl | rfl | rfl <;> rfl
theorem table_ok (w : World) : (KK w).lookup 89 = some (tupObj (fmRows.map fun r => Value.ref r.1).toArray) := by rfl

noncomputable def fmCond (mode : Int) (i : Nat) (e : Ent) : Bool := if i = 0 then Builtin.bitAnd mode 61440 == e.bit else Builtin.bitAnd mode e.bit == e.bit
noncomputable def rowOut (mode : Int) (i : Nat) (es : List Ent) : Str := match es.find? (fmCond mode i) with
  | some e => e.ch
  | none => if i = 0 then Str.ofString "?" else Str.ofString "-"
noncomputable def fmS (mode : Int) : Nat → List Str
  | 0 => []
  | n + 1 => fmS mode n ++ [rowOut mode n ((fmRows[n]?.map (·.2)).getD [])]
noncomputable def fmL (mode : Int) : Str := joinE (fmS mode 10)
theorem fmS_len (mode : Int) : ∀ n, (fmS mode n).length = n
  | 0 => rfl
  | n + 1 => by rw [fmS, List.length_append, fmS_len mode n]; rfl
theorem ch_len : ∀ row ∈ fmRows, ∀ e ∈ row.2, e.ch.length ≤ 100 := by decide +kernel
theorem rowOut_len {mode : Int} {i : Nat} {es : List Ent} (h : ∀ e ∈ es, e.ch.length ≤ 100) : (rowOut mode i es).length ≤ 100 := by
  unfold rowOut
  split
  · rename_i e he
    exact h e (List.mem_of_find?_eq_some he)
  · split <;> decide
theorem fmS_small (mode : Int) : ∀ n, ∀ x ∈ fmS mode n, x.length ≤ 100
  | 0, x, h => nomatch h
  | n + 1, x, h => by
    rcases List.mem_append.mp h with h | h
    · exact fmS_small mode n x h
    · rw [List.mem_singleton.mp h]
      refine rowOut_len fun e he => ?_
      cases hq : fmRows[n]? with
      | none => rw [hq] at he; exact nomatch he
      | some row => rw [hq] at he; exact ch_len row (List.mem_of_getElem? hq) e he

noncomputable def FmM (mode : Int) (tm : Tok) (d : Addr) (m : Str → Option Value) : Prop := m "mode" = some (.int mode tm) ∧ m "perm" = some (.ref d)
noncomputable def FmI (mode : Int) (tm : Tok) (d : Addr) (i : Nat) (ti : Tok) (m : Str → Option Value) : Prop := FmM mode tm d m ∧ m "index" = some (.int i ti)
theorem getK {w : World} {mg mb : Str → Option Value} {g h : Heap} {a : Addr} {vs : Array Value} (S : Site w mg mb g) (hk : ∀ b o, g.get? b = some o → h.get? b = some o) (e : (KK w).lookup a = some (tupObj vs)) : h.IsTuple a vs :=
  ⟨_, hk _ _ (S.X _ _ e), rfl, _, rfl⟩
theorem find_step {α : Type} {p : α → Bool} {es : List α} {j : Nat} {e : α} (hj : es[j]? = some e) (hn : ∀ x ∈ es.take j, p x = false) : (p e = true → es.find? p = some e) ∧ (p e = false → ∀ x ∈ es.take (j + 1), p x = false) := by
  constructor
  · intro he
    have hlt : j < es.length := (List.getElem?_eq_some_iff.mp hj).1
    have e1 : es = es.take j ++ e :: es.drop (j + 1) := by
      have := (List.getElem?_eq_some_iff.mp hj).2
      conv => lhs; rw [← List.take_append_drop j es, List.drop_eq_getElem_cons hlt, this]
    rw [e1, List.find?_append, List.find?_eq_none.mpr (fun x hx => by rw [hn x hx]; exact Bool.false_ne_true)]
    simp [he]
  · intro he x hx
    rw [List.take_add_one, hj] at hx
    rcases List.mem_append.mp hx with hx | hx
    · exact hn x hx
    · rw [List.mem_singleton.mp hx]; exact he
inductive FmJ (mode : Int) (tm : Tok) (d : Addr) (i : Nat) (m : Str → Option Value) (h : Heap) : Prop
  | mk (hm : FmM mode tm d m) (vs : List Value) (e : Nat) (ho : h.get? d = some (lo vs e)) (hs : StrsAre vs (fmS mode i))
inductive FmJ2 (mode : Int) (tm : Tok) (d : Addr) (i : Nat) (t : Tok) (vs : List Value) (e : Nat) (es : List Ent) (h5 : Heap) (L : Addr) (j : Nat) (m : Str → Option Value) (h : Heap) : Prop
  | mk (hm : FmI mode tm d i t m) (ho : h.get? d = some (lo vs e)) (hn : ∀ x ∈ es.take j, fmCond mode i x = false) (k : ∀ b o, b ≠ L → b ≠ d → h5.get? b = some o → h.get? b = some o)
inductive FmQ (gs : Array GenState) (dr : Drawn) (os : OsState) (hp h5 : Heap) (L d : Addr) (mode : Int) (tm : Tok) (xs : List Str) (fl : Flow) (s' : Shared) : Prop
  | mk (e : fl = .next) (h' : Heap) (tk : Nat) (m' : Str → Option Value) (vs' : List Value) (e' : Nat) (es : s' = (⟨h', gs, dr, tk, os⟩ : Shared)) (F : Fr hp L h' m') (hm : FmM mode tm d m') (ho : h'.get? d = some (lo vs' e')) (hs : StrsAre vs' xs) (k : ∀ b o, b ≠ L → b ≠ d → h5.get? b = some o → h'.get? b = some o)
theorem filemode_spec {prog : Program} {w : World} {A : Around} {s : Shared} {mg mb : Str → Option Value} {R : Result → Shared → Prop} {mode : Int} {tm : Tok}
    (S : Site w mg mb s.heap) (hroom : A.depth + 1 < recursionLimit) (hh : A.handled = none)
    (h : ∀ h' tk t, Kept [] s.heap h' → R (.ok (.ret (.str (fmL mode) t))) { s with heap := h', toks := tk }) :
    codeAny (model prog w) A (.call (.ref 96) ⟨[.int mode tm], []⟩) R s := by
  refine enterX S (by rfl) (by rfl) (by lia) (BindsTo.of_eq rfl) (locs rfl) fun h₁ A' m0 tkx T hdA _ hhA hm0 F hT _ => ?_
  replace hhA := hhA.trans hh
  have mm : m0 "mode" = some (.int mode tm) := hm0 _
  clear hm0
  obtain ⟨hp, gs, dr, tk0, os⟩ := s
  dsimp only at *
  generalize hLs : hp.objs.size = L at *
  -- perm = []
  refine wpAny_execs_cons (wpAny_Assign_Name (List_ (spliced_none (newF F (by simp) fun h2 d F2 K2 o2 _ dL d0 => stF F2 fun h3 k3 F3 K3 => ?_))))
  have o3 := K3 _ _ dL o2
  refine wpAny_execs_cons (wpAny_mono (Q := fun fl s' => fl = .next ∧ ∃ h' tk m' vs e, s' = (⟨h', gs, dr, tk, os⟩ : Shared) ∧ Fr hp L h' m' ∧ m' "perm" = some (.ref d) ∧ h'.get? d = some (lo vs e) ∧ StrsAre vs (fmS mode 10)) (E := fun _ _ => False) ?loop ?rest fun _ _ x => x)
  case rest =>
    rintro fl s' ⟨rfl, h', tk', m', vs, e, rfl, F', mp, o', hs⟩
    with_reducible refine wpAny_execs_cons ?_
    with_reducible refine wpAny_Return_some ?_
    with_reducible refine MethodCall_ (pl := ?pl) ?_ ?he
    case he => rfl
    with_reducible refine constS fun t1 k1 => ?_
    with_reducible refine GM.join ?_
    refine callWith_method1 ?_
    refine spliced_more (ldF F' mp (spliced_none ?_))
    exact join_at o' hs (by rw [fmS_len]; decide) (fmS_small mode 10) fun t' tk'' => hT _ _ (h h' tk'' t' fun b o _ e => F'.keep b o e)
  case loop =>
    have hT89 : h3.IsTuple 89 _ := getK S F3.keep (table_ok w)
    refine wpAny_For (Call_ (globBF F3 S (by rfl) boot_enumerate (by decide) (Pv.callWith_type1 (spliced_more (globF F3 S (by rfl) (spliced_none (call_enumT (s := ⟨h3, gs, dr, k3, os⟩) hT89 fun h4 he4 hi4 hsz4 K4 => ?_)))))))
    refine wpAny_pyIter_enum he4 ?_
    have F4 := F3.kept K4
    dsimp only at he4 hi4 hsz4 K4 ⊢
    have lt89 : (89 : Nat) < h3.objs.size := by obtain ⟨o, ho, _⟩ := hT89; exact Heap.lt_size ho
    have ltd : d < h3.objs.size := Heap.lt_size o3
    have ltL : L < h3.objs.size := F3.ns.lt
    have W : ∀ A' : Around, A'.handled = none → _ := fun A' hA => (WalksT.enumerateD (draws_tuple (prog := prog) (w := w) (A := A'.in1) hA h3.objs.size 89 (Nat.ne_of_lt lt89) (fmRows.map fun r => Value.ref r.1).toArray) (h3.objs.size + 1) (Nat.succ_ne_self _)
      (fun q => by
        rcases List.mem_cons.mp q with q | q
        · exact Nat.succ_ne_self _ q
        · exact Nat.ne_of_gt (Nat.lt_succ_of_lt lt89) (List.mem_singleton.mp q)) (List.mem_cons_self ..)).toU
    have nX : ∀ b, b < h3.objs.size → b ∉ [h3.objs.size + 1, h3.objs.size] := fun b hb q => by
      rcases List.mem_cons.mp q with q | q
      · exact Nat.ne_of_lt (Nat.lt_succ_of_lt hb) q
      · exact Nat.ne_of_lt hb (List.mem_singleton.mp q)
    refine for_pairs (s := ⟨h4, gs, dr, k3, os⟩) (FmJ mode tm d) hhA (W _ hhA) ?_ ⟨⟨_, he4⟩, hi4, hT89.at fun o e => K4 _ _ e⟩ F4 ?_ ⟨⟨mm, rfl⟩, _, _, K4 _ _ o3, .nil⟩ ?_ ?_ ?_ ?_
    · intro q
      rcases List.mem_cons.mp q with q | q
      · exact Nat.ne_of_lt (Nat.lt_succ_of_lt ltL) q
      · rcases List.mem_cons.mp q with q | q
        · exact Nat.ne_of_lt ltL q
        · exact Nat.ne_of_gt (Nat.lt_of_lt_of_eq (Heap.lt_size (S.X _ _ (table_ok w))) hLs) (List.mem_singleton.mp q)
    · intro b hb
      refine Heap.get?_none_of_le ?_
      have := F3.above
      rcases List.mem_cons.mp hb with rfl | hb
      · lia
      · rw [List.mem_singleton.mp hb]; lia
    · rintro i m h h' ⟨hm, vs, e, ho, hs⟩ hk
      exact ⟨hm, vs, e, hk _ _ (nX d ltd) dL ho, hs⟩
    · rintro i vals ⟨t, x, _, rfl⟩
      exact ⟨_, _, rfl⟩
    · rintro i v0 v1 m1 h5 tk5 hi ⟨t, x, hx, hv⟩ ⟨hm, vs, e, ho, hs⟩ hst F5
      refine wpAny_hide fun T1 hT1 => ?_
      have hv' : [v0, v1] = [Value.int i t, x] := congrArg Array.toList hv
      obtain ⟨rfl, hv2⟩ := List.cons.inj hv'
      obtain ⟨rfl, _⟩ := List.cons.inj hv2
      clear hv hv' hv2
      have hil : i < fmRows.length := by simpa using hi
      rw [List.getElem?_toArray, List.getElem?_map, List.getElem?_eq_getElem hil] at hx
      obtain rfl := Option.some.inj hx
      obtain ⟨hrow, hents⟩ := rows_ok w fmRows[i] (List.getElem_mem hil)
      have hfm : fmS mode (i + 1) = fmS mode i ++ [rowOut mode i fmRows[i].2] := by
        show fmS mode i ++ [rowOut mode i ((fmRows[i]?.map (·.2)).getD [])] = _
        rw [List.getElem?_eq_getElem hil]; rfl
      have hvl : vs.length ≤ 100 := by
        have h1 := strsAre_len hs
        rw [fmS_len] at h1
        have h2 : fmRows.length = 10 := rfl
        lia
      have hfm2 : ∀ vs6, StrsAre vs6 (fmS mode i ++ [rowOut mode i fmRows[i].2]) → StrsAre vs6 (fmS mode (i + 1)) := fun _ q => hfm ▸ q
      clear hfm
      generalize fmRows[i] = row at *
      obtain ⟨ra, es⟩ := row
      dsimp only at *
      have hTr : h5.IsTuple ra (entRefs es).toArray := getK S F5.keep hrow
      have hTe : ∀ x ∈ es, h5.IsTuple x.a x.vals := fun x hx => getK S F5.keep (hents x hx)
      refine wpAny_execs_cons (wpAny_mono (Q := FmQ gs dr os hp h5 L d mode tm (fmS mode i ++ [rowOut mode i es])) (E := fun _ _ => False) ?inner ?after fun _ _ x => x)
      case after =>
        rintro fl s' ⟨rfl, h6, tk6, m6, vs6, e6, rfl, F6, hm6, ho6, hs6, K6⟩
        have ltL9 : (89 : Nat) < L := Nat.lt_of_lt_of_eq (Heap.lt_size (S.X _ _ (table_ok w))) hLs
        have d9 : (89 : Nat) ≠ d := fun q => by
          obtain ⟨o, ho, hc, _⟩ := hT89
          rw [q, o3] at ho
          rw [← Option.some.inj ho] at hc
          exact absurd hc (by simp)
        refine wpAny_execs_nil (hT1 .next _ ⟨h6, tk6, m6, rfl, F6, ⟨hm6, vs6, e6, ho6, hfm2 _ hs6⟩, fun b hb o eo => ?_⟩)
        rcases List.mem_cons.mp hb with rfl | hb
        · exact K6 _ o (Nat.ne_of_gt (Nat.lt_succ_of_lt ltL)) (Nat.ne_of_gt (Nat.lt_succ_of_lt ltd)) eo
        · rcases List.mem_cons.mp hb with rfl | hb
          · exact K6 _ o (Nat.ne_of_gt ltL) (Nat.ne_of_gt ltd) eo
          · rw [List.mem_singleton.mp hb] at eo ⊢
            exact K6 _ o (Nat.ne_of_lt ltL9) d9 eo
      case inner =>
        refine wpAny_For (ldF F5 rfl (wpAny_pyIter_tuple (s := ⟨h5, gs, dr, tk5, os⟩) hTr ?_))
        dsimp only
        have F6 := F5.push { cls := .type "tuple_iterator", data := .fields #[.ref ra, .int 0 0] }
        have hit6 : (h5.push { cls := .type "tuple_iterator", data := .fields #[.ref ra, .int 0 0] }).IsTupleIter h5.objs.size ra 0 := ⟨_, Heap.get?_push_size _ rfl, rfl, rfl⟩
        have K6 : ∀ b o, h5.get? b = some o → (h5.push { cls := .type "tuple_iterator", data := .fields #[.ref ra, .int 0 0] }).get? b = some o := fun b o e => Heap.get?_push_of_some _ e
        generalize h5.push { cls := .type "tuple_iterator", data := .fields #[.ref ra, .int 0 0] } = h6 at *
        have ltI : ∀ b vs, h5.IsTuple b vs → b ≠ h5.objs.size := fun b vs ht => by obtain ⟨o, ho, _⟩ := ht; exact Nat.ne_of_lt (Heap.lt_size ho)
        have hesz : (entRefs es).toArray.size = es.length := by simp [entRefs]
        have W2 : ∀ A' : Around, A'.handled = none → _ := fun A' hA => walks_tuples (prog := prog) (w := w) (A := A') hA h5.objs.size ra (ltI _ _ hTr) (entRefs es).toArray (fun j => (es[j]?.map (·.a)).getD 0) (fun j => (es[j]?.map Ent.vals).getD #[.none, .none])
          (fun j hj => by
            rw [hesz] at hj
            rw [List.getElem?_toArray]
            simp [entRefs, List.getElem?_eq_getElem hj])
          (fun j hj => by
            rw [hesz] at hj
            simp only [List.getElem?_eq_getElem hj, Option.map_some, Option.getD_some]
            exact ltI _ _ (hTe _ (List.getElem_mem hj)))
        rw [hesz] at W2
        have ltLr : ra < L := Nat.lt_of_lt_of_eq (Heap.lt_size (S.X _ _ hrow)) hLs
        have ltL5 : L < h5.objs.size := F5.ns.lt
        have ltd5 : d < h5.objs.size := Heap.lt_size ho
        refine for_pairs (s := ⟨h6, gs, dr, tk5, os⟩) (FmJ2 mode tm d i t vs e es h5 L) hhA (W2 _ hhA) ?_ ⟨hit6, hTr.at fun o e => K6 _ _ e, ?_⟩ F6 ?_ ⟨⟨hm, rfl⟩, K6 _ _ ho, fun x hx => (nomatch hx), fun b o _ _ e => K6 b o e⟩ ?_ ?_ ?_ ?_
        · intro q
          rcases List.mem_cons.mp q with q | q
          · exact Nat.ne_of_lt ltL5 q
          · rcases List.mem_cons.mp q with q | q
            · exact Nat.ne_of_gt ltLr q
            · obtain ⟨j, hj, rfl⟩ := List.mem_map.mp q
              have hj := List.mem_range.mp hj
              simp only [List.getElem?_eq_getElem hj, Option.map_some, Option.getD_some] at hLs
              exact Nat.ne_of_gt (Heap.lt_size (S.X _ _ (hents _ (List.getElem_mem hj)))) hLs
        · intro j hj
          simp only [List.getElem?_eq_getElem hj, Option.map_some, Option.getD_some]
          exact (hTe _ (List.getElem_mem hj)).at fun o e => K6 _ _ e
        · intro b hb
          rw [List.mem_singleton.mp hb]
          exact next_is_new F5
        · rintro j m h h' ⟨hm, ho, hn, hk0⟩ hk
          refine ⟨hm, hk _ _ (fun q => Nat.ne_of_lt ltd5 (List.mem_singleton.mp q)) dL ho, hn, fun b o b1 b2 eo => hk b o (fun q => Nat.ne_of_lt (Heap.lt_size eo) (List.mem_singleton.mp q)) b1 (hk0 b o b1 b2 eo)⟩
        · intro j vals hv
          rw [hv]
          cases es[j]? with
          | none => exact ⟨_, _, rfl⟩
          | some x => exact ⟨_, _, rfl⟩
        · rintro j v0 v1 m2 h7 tk7 hj hv ⟨⟨⟨mmode, mperm⟩, midx⟩, ho7, hno, K7⟩ hst7 F7
          refine wpAny_hide fun T2 hT2 => ?_
          have hje : es[j]? = some es[j] := List.getElem?_eq_getElem hj
          rw [hje] at hv
          have hv' : [v0, v1] = [Value.int es[j].bit es[j].tb, .str es[j].ch es[j].tc] := congrArg Array.toList hv
          obtain ⟨rfl, hv2⟩ := List.cons.inj hv'
          obtain ⟨rfl, _⟩ := List.cons.inj hv2
          clear hv hv' hv2
          obtain ⟨hfind, hnext⟩ := find_step hje hno
          generalize es[j] = ent at *
          refine wpAny_execs_cons (wpAny_If (wpAny_isTrue_Compare1 (ldF F7 midx (constI fun t1 k1 => eq_int (wpAny_truthy_bool ?_)))))
          by_cases hi0 : i = 0
          · refine itT (by rw [hi0]; rfl) ?_
            refine wpAny_execs_cons (wpAny_If (wpAny_isTrue_Compare1 (Call_ (globF F7 S (by rfl) (callWith_K S.X (by rfl) (spliced_more (ldF F7 mmode (spliced_none ⟨S.X.keeps F7.keep, wpAny_call ?_⟩))))))))
            refine ifmt_spec (s := ⟨h7, gs, dr, _, os⟩) (S.keeps F7.keep) (by lia) fun h8 k8 t8 hK8 => ?_
            have KK8 : ∀ b o, h7.get? b = some o → h8.get? b = some o := fun b o e => hK8 b o (by simp) e
            have F8 := F7.kept KK8
            have ho8 := KK8 _ _ ho7
            have K8 : ∀ b o, b ≠ L → b ≠ d → h5.get? b = some o → h8.get? b = some o := fun b o b1 b2 eo => KK8 b o (K7 b o b1 b2 eo)
            refine ldF F8 rfl (eq_int (wpAny_truthy_bool ?_))
            by_cases hc : (Builtin.bitAnd mode 61440 == ent.bit) = true
            · refine itT hc ?_
              have hrow : rowOut mode i es = ent.ch := by unfold rowOut; rw [hfind (by unfold fmCond; rw [if_pos hi0]; exact hc)]
              refine wpAny_execs_cons (wpAny_Expr (MethodCall_ (ldF F8 mperm (getMethod_list_append ho8 rfl rfl (callWith_method1 (spliced_more (ldF F8 rfl (spliced_none ?_))))))))
              refine append_at (s := ⟨h8, gs, dr, _, os⟩) ho8 (fun h9 hs9 ho9 => ?_) (by rw [List.size_toArray, sizeLine_eq]; lia)
              rw [List.push_toArray] at ho9
              refine wpAny_execs_cons (wpAny_Break ?_)
              refine hT2 .brk _ ⟨rfl, h9, _, _, _, _, rfl, F8.change hs9 dL d0, ⟨mmode, mperm⟩, ho9, ?_, fun b o b1 b2 eo => (hs9.2 b b2).trans (K8 b o b1 b2 eo)⟩
              rw [hrow]
              exact strsAre_snoc hs _ _
            · have hc' := Bool.eq_false_iff.mpr hc
              refine itF hc' ?_
              exact wpAny_execs_nil (wpAny_execs_nil (wpAny_execs_nil (hT2 .next _ ⟨h8, _, _, rfl, F8, ⟨⟨⟨mmode, mperm⟩, midx⟩, ho8, hnext (by unfold fmCond; rw [if_pos hi0]; exact hc'), K8⟩, fun b hb o eo => KK8 b o eo⟩)))
          · refine itF (beq_eq_false_iff_ne.mpr (by lia)) ?_
            refine wpAny_execs_cons (wpAny_If (wpAny_isTrue_Compare1 (wpAny_BinOp (ldF F7 mmode (ldF F7 rfl (and_int (ldF F7 rfl (eq_int (wpAny_truthy_bool ?_)))))))))
            have KK8 : ∀ b o, h7.get? b = some o → h7.get? b = some o := fun b o e => e
            generalize hh78 : h7 = h8 at *
            have F8 := F7
            have ho8 := ho7
            have K8 := K7
            by_cases hc : (Builtin.bitAnd mode ent.bit == ent.bit) = true
            · refine itT hc ?_
              have hrow : rowOut mode i es = ent.ch := by unfold rowOut; rw [hfind (by unfold fmCond; rw [if_neg hi0]; exact hc)]
              refine wpAny_execs_cons (wpAny_Expr (MethodCall_ (ldF F8 mperm (getMethod_list_append ho8 rfl rfl (callWith_method1 (spliced_more (ldF F8 rfl (spliced_none ?_))))))))
              refine append_at (s := ⟨h8, gs, dr, _, os⟩) ho8 (fun h9 hs9 ho9 => ?_) (by rw [List.size_toArray, sizeLine_eq]; lia)
              rw [List.push_toArray] at ho9
              refine wpAny_execs_cons (wpAny_Break ?_)
              refine hT2 .brk _ ⟨rfl, h9, _, _, _, _, rfl, F8.change hs9 dL d0, ⟨mmode, mperm⟩, ho9, ?_, fun b o b1 b2 eo => (hs9.2 b b2).trans (K8 b o b1 b2 eo)⟩
              rw [hrow]
              exact strsAre_snoc hs _ _
            · have hc' := Bool.eq_false_iff.mpr hc
              refine itF hc' ?_
              exact wpAny_execs_nil (wpAny_execs_nil (wpAny_execs_nil (hT2 .next _ ⟨h8, _, _, rfl, F8, ⟨⟨⟨mmode, mperm⟩, midx⟩, ho8, hnext (by unfold fmCond; rw [if_neg hi0]; exact hc'), K8⟩, fun b hb o eo => KK8 b o eo⟩)))
        · rintro h7 tk7 m7 ⟨⟨⟨mmode, mperm⟩, midx⟩, ho7, hno, K7⟩ F7
          have hnone : es.find? (fmCond mode i) = none := by
            refine List.find?_eq_none.mpr fun x hx => ?_
            rw [hno x (by rw [List.take_length]; exact hx)]; exact Bool.false_ne_true
          refine wpAny_execs_cons (wpAny_If (wpAny_isTrue_Compare1 (ldF F7 midx (constI fun t1 k1 => eq_int (wpAny_truthy_bool ?_)))))
          by_cases hi0 : i = 0
          · refine itT (by rw [hi0]; rfl) ?_
            have hrow : rowOut mode i es = Str.ofString "?" := by unfold rowOut; rw [hnone]; exact if_pos hi0
            refine wpAny_execs_cons (wpAny_Expr (MethodCall_ (ldF F7 mperm (getMethod_list_append ho7 rfl rfl (callWith_method1 (spliced_more (constS fun t8 k8 => spliced_none ?_)))))))
            refine append_at (s := ⟨h7, gs, dr, _, os⟩) ho7 (fun h9 hs9 ho9 => ?_) (by rw [List.size_toArray, sizeLine_eq]; lia)
            rw [List.push_toArray] at ho9
            refine wpAny_execs_nil (wpAny_execs_nil ⟨rfl, h9, _, _, _, _, rfl, F7.change hs9 dL d0, ⟨mmode, mperm⟩, ho9, ?_, fun b o b1 b2 eo => (hs9.2 b b2).trans (K7 b o b1 b2 eo)⟩)
            rw [hrow]
            exact strsAre_snoc hs _ _
          · refine itF (beq_eq_false_iff_ne.mpr (by lia)) ?_
            have hrow : rowOut mode i es = Str.ofString "-" := by unfold rowOut; rw [hnone]; exact if_neg hi0
            refine wpAny_execs_cons (wpAny_Expr (MethodCall_ (ldF F7 mperm (getMethod_list_append ho7 rfl rfl (callWith_method1 (spliced_more (constS fun t8 k8 => spliced_none ?_)))))))
            refine append_at (s := ⟨h7, gs, dr, _, os⟩) ho7 (fun h9 hs9 ho9 => ?_) (by rw [List.size_toArray, sizeLine_eq]; lia)
            rw [List.push_toArray] at ho9
            refine wpAny_execs_nil (wpAny_execs_nil ⟨rfl, h9, _, _, _, _, rfl, F7.change hs9 dL d0, ⟨mmode, mperm⟩, ho9, ?_, fun b o b1 b2 eo => (hs9.2 b b2).trans (K7 b o b1 b2 eo)⟩)
            rw [hrow]
            exact strsAre_snoc hs _ _
    · rintro h5 tk5 m5 ⟨hm, vs, e, ho, hs⟩ F5
      exact wpAny_execs_nil ⟨rfl, h5, tk5, m5, vs, e, rfl, F5, hm.2, ho, hs⟩

inductive ListGotI (n : Nat) (Q : Value → Shared → Prop) (v : Value) (s' : Shared) : Prop
  | mk (l : Addr) (vs : List Value) (h1 : Heap) (gs : Array GenState) (d1 : Drawn) (tk1 : Tok) (os : OsState) (ev : v = .ref l) (es : s' = (⟨h1, gs, d1, tk1, os⟩ : Shared)) (hl : h1.IsList l vs.toArray) (hn : vs.length ≤ 10000)
      (k : ∀ h' D tk', (∀ c o, h1.get? c = some o → h'.get? c = some o) → h1.get? D = none → h'.get? D = some (lo (vs.take n) 0) → Q (.ref D) ⟨h', gs, d1, tk', os⟩)
inductive IntsGot (Q : Value → Shared → Prop) (v : Value) (s' : Shared) : Prop
  | mk (lt : Addr) (vs : List Value) (ns : List Int) (e : Nat) (h1 : Heap) (gs : Array GenState) (d1 : Drawn) (tk1 : Tok) (os : OsState) (ev : v = .ref lt) (es : s' = (⟨h1, gs, d1, tk1, os⟩ : Shared)) (hl : h1.get? lt = some (lo vs e)) (hi : IntsAre vs ns) (hn : vs.length ≤ 100)
      (k : ∀ D ys h' tk' e', (∀ b o, h1.get? b = some o → h'.get? b = some o) → h1.get? D = none → h'.get? D = some (lo ys e') → IntsAre ys (ns.map fun x : Int => x.fmod 6) → Q (.ref D) ⟨h', gs, d1, tk', os⟩)
section
variable {prog : Program} {w : World} {A : Around} {E : Value → Shared → Prop} {s : Shared}
theorem slice_uptoI {env : Env} {value : Expr} {n k : Nat} {p1 p2 p3 : Pos} {Q : Value → Shared → Prop}
    (h : wpAny (model prog w) A (eval value env) (ListGotI n Q) E s) :
    wpAny (model prog w) A (eval (.Subscript value (.Slice none (some (.Constant (.int (n : Int)) k p1)) none p2) p3) env) Q E s := by
  refine Subscript_ (wpAny_mono h (fun v s' hv => ?_) fun _ _ x => x)
  obtain ⟨l, vs, h1, gs, d1, tk1, os, rfl, rfl, hli, hsz, hq⟩ := hv
  refine wpAny_Slice (evalPart_none_step (evalPart_some_step (constI fun t1 k1 => evalPart_none_step ?_)))
  dsimp only
  refine tail_any (s := ⟨h1.push { cls := .type "slice", data := .fields #[.none, .int (n : Int) t1, .none] }, gs, d1, k1, os⟩) (Heap.IsList.typeIs (hli.push _)) list_getitem_lookup
    (wpAny_getItem_list_slice (hli.push _) (Heap.IsSliceOf.new ..) .none (.int _ _) .none (by simp) ?_ (by rw [List.size_toArray, sizeLine_eq]; lia)) (by with_unfolding_all rfl)
  refine hq _ _ _ (fun c o q => Heap.get?_push_of_some _ (Heap.get?_push_of_some _ q)) (Heap.get?_none_of_le (by rw [Heap.size_push]; exact Nat.le_succ _)) ?_
  rw [slicePick_to]
  exact Heap.get?_push_size _ rfl
/-- [x % 6 for x in ...] -/
theorem mod_comp {env : Env} {scope : Scope} {iter : Expr} {px p1 p2 p3 pos : Pos} {Q : Value → Shared → Prop} (hh : A.handled = none)
    (hclos : closureFor scope env = pure []) (hcell : ∀ y ∈ scope.names, y.2 ≠ .cell) (hkind : scope.kind = .function)
    (hnames : ∀ y ∈ scope.names, y.2 = .local → scope.names.lookup y.1 = some .local) (hx : scope.names.lookup (Str.ofString "x") = some .local)
    (hfold : ∀ x, foldedSetIterable iter env x = pure x)
    (hsrc : wpAny (model prog w) A (eval iter env) (IntsGot Q) E s) :
    wpAny (model prog w) A (eval (.ListComp (.BinOp (.Name (Str.ofString "x") p1) .Mod (.Constant (.int 6) 0 p2) p3) [⟨.Name (Str.ofString "x") px, iter, [], 0⟩] scope pos) env) Q E s := by
  refine comp_eval hclos hcell hkind hnames hx (wpAny_mono hsrc (fun v s' hv => ?_) fun _ _ x => x) hfold
  obtain ⟨lt, vs, ns, e, hp, gs, dr, tk, os, rfl, rfl, hlt, hi, hn, h⟩ := hv
  refine wpAny_pyIter_list (s := ⟨hp, gs, dr, tk, os⟩) (⟨_, hlt, rfl, _, rfl⟩ : hp.IsList lt vs.toArray) ?_
  dsimp only
  have hit : (hp.push { cls := .type "list_iterator", data := .fields #[.ref lt, .int 0 0] }).IsListIter hp.objs.size lt 0 := ⟨_, Heap.get?_push_size _ rfl, rfl, rfl⟩
  generalize hh3 : hp.push { cls := .type "list_iterator", data := .fields #[.ref lt, .int 0 0] } = h3 at *
  have hk3 : ∀ b o, hp.get? b = some o → h3.get? b = some o := fun b o e => hh3 ▸ Heap.get?_push_of_some _ e
  have hs3 : h3.objs.size = hp.objs.size + 1 := by rw [← hh3, Heap.size_push]
  have ne : ∀ b o, hp.get? b = some o → b ≠ hp.objs.size := fun b o e => Nat.ne_of_lt (Heap.lt_size e)
  have hvn : vs.length = ns.length := hi.length
  have W := Walks.list (prog := prog) (w := w) (A := A) hh hp.objs.size lt (ne _ _ hlt) vs.toArray
  rw [List.size_toArray] at W
  refine ⟨hp.objs.size, _, _, vs.length, _, _, fun i ys h => IntsAre ys ((ns.take i).map fun x : Int => x.fmod 6), rfl, W, by lia, ⟨hit, ⟨_, hk3 _ _ hlt, rfl, _, rfl⟩⟩, ?_, ⟨fun _ _ => .nil, fun i ys h h' a _ => a, ?_⟩, ?_⟩
  · intro b hb
    rw [hs3]
    rcases List.mem_cons.mp hb with rfl | hb
    · exact Nat.lt_succ_self _
    · rw [List.mem_singleton.mp hb]; exact Nat.lt_succ_of_lt (Heap.lt_size hlt)
  · rintro i v ys h' tk' m hi' hP hJ hns hm _ hk _
    rw [List.getElem?_toArray] at hP
    obtain ⟨n, t, rfl, hni⟩ := intAt hi hP
    show wpAny _ _ (forIn [] true _) _ _ _
    rw [List.forIn_nil]
    refine wpAny_pure ?_
    refine itT rfl ?_
    refine wpAny_BinOp (ldNs hns hm (constI fun t1 k1 => modF (fun t2 k2 => ⟨h', k2, rfl, fun _ _ e => e, ?_⟩) (by decide)) rfl (by simp [compEnvC, relabel, hkind]) (lookup_relabel_local hx))
    rw [List.take_add_one, hni, Option.toList_some, List.map_append]
    exact intsAre_snoc hJ
  · intro ys h' tk' e' hJ hD hk
    rw [hvn, List.take_length] at hJ
    exact h _ ys h' tk' e' (fun b o q => hk b o (fun z => ne b o q (List.mem_singleton.mp z)) (hk3 b o q)) (Heap.get?_none_of_le (by rw [hs3]; exact Nat.le_succ _)) hD hJ
end
section
variable {prog : Program} {w : World} {A : Around} {E : Value → Shared → Prop} {hp : Heap} {gs : Array GenState} {dr : Drawn} {tk : Tok} {os : OsState}
theorem sumF {l : Addr} {vs : List Value} {ns : List Int} {Q : Value → Shared → Prop} (hh : A.handled = none) (hl : hp.IsList l vs.toArray) (hi : IntsAre vs ns)
    (h : ∀ h' tk' t', (∀ b o, hp.get? b = some o → h'.get? b = some o) → Q (.int ns.sum t') ⟨h', gs, dr, tk', os⟩) : wpAny (model prog w) A (call (.builtin "sum") [.ref l]) Q E ⟨hp, gs, dr, tk, os⟩ := by
  obtain ⟨xs, hx⟩ := hi.allInts.items
  have hl' : hp.IsList l (intItems xs) := hx ▸ hl
  refine sum_intListG (s := ⟨hp, gs, dr, tk, os⟩) hh hl' fun h' tk t' hk => ?_
  have e1 : ns = xs.toList.map (·.1) := by
    rw [← nums_intItems, ← hx]
    exact (show numsOf vs.toArray.toList = ns from hi.numsOf).symm
  have e2 : preSum (numAt xs) xs.size = ns.sum := by
    rw [preSum_eq, List.take_of_length_le (by simp), e1]
  rw [e2]
  exact h h' tk t' hk
/-- ['&<>"\ta'[place] for place in places] -/
theorem char_comp {env : Env} {scope : Scope} {pl : Addr} {pvs : List Value} {ep : Nat} {ps : List Nat} {px p1 p2 p3 p4 pos : Pos} {Q : Value → Shared → Prop} (hh : A.handled = none)
    (hload : ∀ (Q : Value → Shared → Prop) (E : Value → Shared → Prop), Q (.ref pl) ⟨hp, gs, dr, tk, os⟩ → wpAny (model prog w) A (eval (.Name (Str.ofString "places") p4) env) Q E ⟨hp, gs, dr, tk, os⟩)
    (hpl : hp.get? pl = some (lo pvs ep)) (hps : IntsAre pvs (ps.map Int.ofNat)) (h6 : ∀ p ∈ ps, p < 6) (h4 : ps.length ≤ 4)
    (hclos : closureFor scope env = pure []) (hcell : ∀ y ∈ scope.names, y.2 ≠ .cell) (hkind : scope.kind = .function)
    (hnames : ∀ y ∈ scope.names, y.2 = .local → scope.names.lookup y.1 = some .local) (hx : scope.names.lookup (Str.ofString "place") = some .local)
    (hfold : ∀ x, foldedSetIterable (.Name (Str.ofString "places") p4) env x = pure x)
    (h : ∀ D ys h' tk' e, (∀ b o, hp.get? b = some o → h'.get? b = some o) → h'.get? D = some (lo ys e) → StrsAre ys (ps.map charS) → Q (.ref D) ⟨h', gs, dr, tk', os⟩) :
    wpAny (model prog w) A (eval (.ListComp (.Subscript (.Constant (.str (Str.ofString "&<>\"\ta")) 0 p1) (.Name (Str.ofString "place") p2) p3) [⟨.Name (Str.ofString "place") px, .Name (Str.ofString "places") p4, [], 0⟩] scope pos) env) Q E ⟨hp, gs, dr, tk, os⟩ := by
  refine comp_eval hclos hcell hkind hnames hx (hload _ _ ?_) hfold
  refine wpAny_pyIter_list (s := ⟨hp, gs, dr, tk, os⟩) (⟨_, hpl, rfl, _, rfl⟩ : hp.IsList pl pvs.toArray) ?_
  dsimp only
  have hit : (hp.push { cls := .type "list_iterator", data := .fields #[.ref pl, .int 0 0] }).IsListIter hp.objs.size pl 0 := ⟨_, Heap.get?_push_size _ rfl, rfl, rfl⟩
  generalize hh3 : hp.push { cls := .type "list_iterator", data := .fields #[.ref pl, .int 0 0] } = h3 at *
  have hk3 : ∀ b o, hp.get? b = some o → h3.get? b = some o := fun b o e => hh3 ▸ Heap.get?_push_of_some _ e
  have hs3 : h3.objs.size = hp.objs.size + 1 := by rw [← hh3, Heap.size_push]
  have ne : ∀ b o, hp.get? b = some o → b ≠ hp.objs.size := fun b o e => Nat.ne_of_lt (Heap.lt_size e)
  have hpn : pvs.length = ps.length := by rw [hps.length, List.length_map]
  have W := Walks.list (prog := prog) (w := w) (A := A) hh hp.objs.size pl (ne _ _ hpl) pvs.toArray
  rw [List.size_toArray] at W
  refine ⟨hp.objs.size, _, _, pvs.length, _, _, fun i ys h => StrsAre ys ((ps.take i).map charS), rfl, W, by lia, ⟨hit, ⟨_, hk3 _ _ hpl, rfl, _, rfl⟩⟩, ?_, ⟨fun _ _ => .nil, fun i ys h h' a _ => a, ?_⟩, ?_⟩
  · intro b hb
    rw [hs3]
    rcases List.mem_cons.mp hb with rfl | hb
    · exact Nat.lt_succ_self _
    · rw [List.mem_singleton.mp hb]; exact Nat.lt_succ_of_lt (Heap.lt_size hpl)
  · rintro i v ys h' tk' m hi hP hJ hns hm _ hk _
    rw [List.getElem?_toArray] at hP
    have hips : i < ps.length := by lia
    obtain ⟨k, t, rfl, hki⟩ := intAt hps hP
    rw [List.getElem?_map, List.getElem?_eq_getElem hips] at hki
    obtain rfl := Option.some.inj hki
    have hp6 := h6 _ (List.getElem_mem hips)
    have hof : Int.ofNat ps[i] = (ps[i] : Int) := rfl
    show wpAny _ _ (forIn [] true _) _ _ _
    rw [List.forIn_nil]
    refine wpAny_pure ?_
    refine itT rfl ?_
    have hl6 : (Str.ofString "&<>\"\ta").length = 6 := by decide +kernel
    refine Subscript_ (constS fun t1 k1 => ldNs hns hm (itemSF (fitsSsize_of (N := 9223372036854775808) (by lia) (by lia) (Int.le_refl _)) (by rw [hl6]; lia) (by rw [hl6]; lia) fun t2 k2 => ⟨h', k2, rfl, fun _ _ e => e, ?_⟩) rfl (by simp [compEnvC, relabel, hkind]) (lookup_relabel_local hx))
    rw [List.take_add_one, List.getElem?_eq_getElem hips, Option.toList_some, List.map_append]
    exact strsAre_snoc hJ _ _
  · intro ys h' tk' e hJ hD hk
    rw [hpn, List.take_length] at hJ
    exact h _ ys h' tk' e (fun b o q => hk b o (fun z => ne b o q (List.mem_singleton.mp z)) (hk3 b o q)) hD hJ
end

theorem eq_strs {prog : Program} {w : World} {A : Around} {E : Value → Shared → Prop} {s : Shared} {l b : Addr} {vs us : List Value} {xs : List Str} {n k : Nat} {Q : Value → Shared → Prop}
    (hu : A.units < cLine) (hl : s.heap.get? l = some (lo vs n)) (hb : s.heap.get? b = some (lo us k)) (hv : StrsAre vs xs) (hw : StrsAre us xs) (h : Q (.bool true) s) :
    wpAny (model prog w) A (compareOp .Eq (.ref l) (.ref b)) Q E s := by
  refine SeqAt.eq_listAt (e := fun _ => true) (isList_of hl) (isList_of hb) (by simp [strsAre_len hv, strsAre_len hw]) hu (fun j h1 h2 => ?_) ?_
  · obtain ⟨x, t, e1, e2⟩ := strsAre_get hv (i := j) (v := vs.toArray[j]) (by simp)
    obtain ⟨y, u, e3, e4⟩ := strsAre_get hw (i := j) (v := us.toArray[j]) (by simp)
    rw [e1] at e3
    obtain rfl := Option.some.inj e3
    rw [e2, e4]
    have := SeqAt.EqAt.str_str (A := A.in1) (s := s) x t x u
    rwa [beq_self_eq_true] at this
  · have : ((List.range vs.toArray.size).all fun _ => true) = true := by simp
    rw [this]; exact h
/-- the listing in the law's own signs -/
noncomputable def lstE (r : Nat) : Str := (((Str.ofString "-" ++ Txt.item (Str.ofString "-r") (((r : Int).fdiv 4).fmod 2)) ++ Txt.item (Str.ofString "-w") (((r : Int).fdiv 2).fmod 2)) ++ Txt.item (Str.ofString "-xSs") ((r : Int).fmod 2 + (r : Int).fdiv 8 * 2)) ++ Str.ofString "------"
noncomputable def modeE (r : Nat) : Int := 32768 + (r : Int).fmod 8 * 64 + (r : Int).fdiv 8 * 2048
theorem lst_ok : ∀ r < 16, fmL (modeE r) = lstE r := by decide +kernel
theorem lst_len : ∀ r < 16, (lstE r).length = 10 := by decide +kernel
theorem idx_ok : ∀ r : Nat, r < 16 → (0 ≤ ((r : Int).fdiv 4).fmod 2 ∧ ((r : Int).fdiv 4).fmod 2 < 2) ∧ (0 ≤ ((r : Int).fdiv 2).fmod 2 ∧ ((r : Int).fdiv 2).fmod 2 < 2) ∧ (0 ≤ (r : Int).fmod 2 + (r : Int).fdiv 8 * 2 ∧ (r : Int).fmod 2 + (r : Int).fdiv 8 * 2 < 4) := by decide +kernel

section
variable {prog : Program} {w : World} {A : Around} {E : Value → Shared → Prop} {hp : Heap} {gs : Array GenState} {dr : Drawn} {tk : Tok} {os : OsState}
theorem mulF {a b : Int} {t u : Tok} {Q : Value → Shared → Prop} (h : ∀ t' tk', Q (.int (a * b) t') ⟨hp, gs, dr, tk', os⟩) (hm : IntMulOk a b) : wpAny (model prog w) A (binaryOp .Mult (.int a t) (.int b u)) Q E ⟨hp, gs, dr, tk, os⟩ := mul_int (h _ _) hm
end
section
variable {prog : Program} {w : World} {A : Around} {E : Value → Shared → Prop} {hp : Heap} {gs : Array GenState} {dr : Drawn} {tk : Tok} {os : OsState}
theorem itemSS {value slice : PySem.Expr} {x : Str} {t u : Tok} {i : Int} {n : Nat} {Q : Value → Shared → Prop} (hx : x.length = n) (hn : n ≤ 100) (h0 : 0 ≤ i) (h1 : i < (n : Int)) (h : ∀ t' tk', Q (.str (Txt.item x i) t') ⟨hp, gs, dr, tk', os⟩)
    (hs : subscripted slice false (.str x t) (.int i u) = operate [.str x t, .int i u] (getItem (.str x t) (.int i u)) := by with_unfolding_all rfl)
    (ht : ∀ r, letTemporaryGo value (.str x t) r = pure () := by intro _; with_unfolding_all rfl) :
    wpAny (model prog w) A (subscriptTail value slice (.str x t) (.int i u)) Q E ⟨hp, gs, dr, tk, os⟩ :=
  itemSF (fitsSsize_of (N := 9223372036854775808) (by lia) (by lia) (Int.le_refl _)) (by lia) (by rw [hx]; exact h1) h hs ht
theorem addSS {x y : Str} {t u : Tok} {Q : Value → Shared → Prop} (hx : x.length ≤ 100) (hy : y.length ≤ 100) (h : ∀ t' tk', Q (.str (x ++ y) t') ⟨hp, gs, dr, tk', os⟩) : wpAny (model prog w) A (binaryOp .Add (.str x t) (.str y u)) Q E ⟨hp, gs, dr, tk, os⟩ :=
  addSF h (by rw [sizeLine_eq]; lia)
end
noncomputable def placesOf (ns : List Int) : List Nat := 3 :: 1 :: (ns.take 2).map fun x => (x.fmod 6).toNat
theorem places_six (ns : List Int) : ∀ p ∈ placesOf ns, p < 6 := by
  intro p hp
  rcases List.mem_cons.mp hp with rfl | hp
  · decide
  rcases List.mem_cons.mp hp with rfl | hp
  · decide
  obtain ⟨x, _, rfl⟩ := List.mem_map.mp hp
  have h1 := Int.fmod_lt_of_pos x (b := 6) (by decide)
  have h2 := Int.fmod_nonneg_of_pos x (b := 6) (by decide)
  lia
theorem places_len (ns : List Int) : (placesOf ns).length ≤ 4 := by
  simp [placesOf, List.length_take]; lia
theorem places_ints (ns : List Int) : (placesOf ns).map Int.ofNat = [3, 1] ++ (ns.take 2).map fun x : Int => x.fmod 6 := by
  show Int.ofNat 3 :: Int.ofNat 1 :: ((ns.take 2).map fun x => (x.fmod 6).toNat).map Int.ofNat = _
  rw [List.map_map]
  refine congrArg (fun z => (3 : Int) :: 1 :: z) (List.map_congr_left fun x _ => ?_)
  have h2 := Int.fmod_nonneg_of_pos x (b := 6) (by decide)
  show ((x.fmod 6).toNat : Int) = _
  lia
noncomputable def it1 (r : Nat) : Str := Txt.item (Str.ofString "-r") (((r : Int).fdiv 4).fmod 2)
noncomputable def it2 (r : Nat) : Str := Txt.item (Str.ofString "-w") (((r : Int).fdiv 2).fmod 2)
noncomputable def it3 (r : Nat) : Str := Txt.item (Str.ofString "-xSs") ((r : Int).fmod 2 + (r : Int).fdiv 8 * 2)
theorem len_ok : ∀ r < 16, (it1 r).length ≤ 100 ∧ (it2 r).length ≤ 100 ∧ (it3 r).length ≤ 100 ∧ (Str.ofString "-" ++ it1 r).length ≤ 100 ∧ ((Str.ofString "-" ++ it1 r) ++ it2 r).length ≤ 100 ∧ (((Str.ofString "-" ++ it1 r) ++ it2 r) ++ it3 r).length ≤ 100 := by decide +kernel
theorem fold_size1 : ∀ (xs : List Str) (a : Array Nat), (∀ x ∈ xs, x.length ≤ 1) → (xs.foldl (fun acc (p : Str) => acc ++ (Str.ofString "").cps ++ p.cps) a).size ≤ a.size + xs.length
  | [], a, _ => by simp
  | x :: xs, a, h => by
    have h1 : x.cps.size ≤ 1 := h x (.head _)
    have h2 := fold_size1 xs (a ++ (Str.ofString "").cps ++ x.cps) fun y hy => h y (.tail _ hy)
    have h3 : (Str.ofString "").cps.size = 0 := rfl
    rw [List.foldl_cons, List.length_cons]
    simp only [Array.size_append] at h2
    lia
theorem joinE_len1 {xs : List Str} (h : ∀ x ∈ xs, x.length ≤ 1) : (joinE xs).length ≤ xs.length := by
  cases xs with
  | nil => exact Nat.zero_le _
  | cons x xs =>
    have h1 : x.cps.size ≤ 1 := h x (.head _)
    have h2 := fold_size1 xs x.cps fun y hy => h y (.tail _ hy)
    show (xs.foldl (fun acc (p : Str) => acc ++ (Str.ofString "").cps ++ p.cps) x.cps).size ≤ _
    rw [List.length_cons]
    lia
theorem char_len : ∀ p < 6, (charS p).length ≤ 1 := by decide +kernel
section
variable {prog : Program} {w : World} {A : Around} {E : Value → Shared → Prop} {g : Heap} {L a : Addr} {m : Str → Option Value} {qual : Str} {scope : Scope} {cd : Value} {hp : Heap} {gs : Array GenState} {dr : Drawn} {tk : Nat} {os : OsState} {r : Nat} {tr : Tok} {Q : Value → Shared → Prop}
theorem lst_eval {p1 p2 p3 p4 p5 p6 p7 p8 p9 p10 p11 p12 p13 p14 p15 p16 p17 p18 p19 p20 p21 p22 p23 p24 p25 p26 p27 p28 p29 p30 p31 : Pos} (F : Fr g L hp m) (mr : m (Str.ofString "rights") = some (.int r tr)) (hr16 : r < 16) (h : ∀ t tk', Q (.str (lstE r) t) ⟨hp, gs, dr, tk', os⟩)
    (hk : scope.kind = .function := by rfl) (k1 : (envOf qual scope L a cd).kindOf (Str.ofString "rights") = some .local := by rfl) :
    wpAny (model prog w) A (eval (.BinOp (.BinOp (.BinOp (.BinOp (.Constant (.str (Str.ofString "-")) 0 p1) .Add (.Subscript (.Constant (.str (Str.ofString "-r")) 0 p2) (.BinOp (.BinOp (.Name (Str.ofString "rights") p3) .FloorDiv (.Constant (.int 4) 0 p4) p5) .Mod (.Constant (.int 2) 0 p6) p7) p8) p9) .Add (.Subscript (.Constant (.str (Str.ofString "-w")) 0 p10) (.BinOp (.BinOp (.Name (Str.ofString "rights") p11) .FloorDiv (.Constant (.int 2) 0 p12) p13) .Mod (.Constant (.int 2) 0 p14) p15) p16) p17) .Add (.Subscript (.Constant (.str (Str.ofString "-xSs")) 0 p18) (.BinOp (.BinOp (.Name (Str.ofString "rights") p19) .Mod (.Constant (.int 2) 0 p20) p21) .Add (.BinOp (.BinOp (.Name (Str.ofString "rights") p22) .FloorDiv (.Constant (.int 8) 0 p23) p24) .Mult (.Constant (.int 2) 0 p25) p26) p27) p28) p29) .Add (.Constant (.str (Str.ofString "------")) 0 p30) p31) (envOf qual scope L a cd)) Q E ⟨hp, gs, dr, tk, os⟩ := by
  have hdiv : ∀ b : Int, b.natAbs < 1073741824 → Builtin.divisionGoesByPylong (r : Int) b = false := fun b hb => PyProof.noPylong_small hb
  obtain ⟨⟨i10, i11⟩, ⟨i20, i21⟩, ⟨i30, i31⟩⟩ := idx_ok r hr16
  obtain ⟨l1, l2, l3, l4, l5, l6⟩ := len_ok r hr16
  have q1 : (Str.ofString "-r").length = 2 := by decide +kernel
  have q2 : (Str.ofString "-w").length = 2 := by decide +kernel
  have q3 : (Str.ofString "-xSs").length = 4 := by decide +kernel
  have q4 : (Str.ofString "-").length = 1 := by decide +kernel
  have q5 : (Str.ofString "------").length = 6 := by decide +kernel
  refine wpAny_BinOp (wpAny_hide fun T3 hT3 => ?_)
  refine wpAny_BinOp (wpAny_hide fun T2 hT2 => ?_)
  refine wpAny_BinOp (wpAny_hide fun T1 hT1 => ?_)
  refine wpAny_BinOp (constS fun t1 k2 => Subscript_ (constS fun t2 k3 => wpAny_BinOp (wpAny_BinOp (ldF F mr (constI fun t3 k4 => divF (fun t4 k5 => constI fun t5 k6 => modF (fun t6 k7 => ?_) (by decide)) (by decide) (hdiv _ (by decide))) hk k1))))
  refine itemSS q1 (by decide) i10 i11 fun t7 k8 => addSS (by rw [q4]; decide) l1 fun t8 k9 => hT1 _ _ ?_
  refine Subscript_ (constS fun t2 k3 => wpAny_BinOp (wpAny_BinOp (ldF F mr (constI fun t3 k4 => divF (fun t4 k5 => constI fun t5 k6 => modF (fun t6 k7 => ?_) (by decide)) (by decide) (hdiv _ (by decide))) hk k1)))
  refine itemSS q2 (by decide) i20 i21 fun t7 k8 => addSS l4 l2 fun t8 k9 => hT2 _ _ ?_
  refine Subscript_ (constS fun t2 k3 => wpAny_BinOp (wpAny_BinOp (ldF F mr (constI fun t3 k4 => modF (fun t4 k5 => wpAny_BinOp (wpAny_BinOp (ldF F mr (constI fun t5 k6 => divF (fun t6 k7 => constI fun t9 k9 => mulF (fun ta ka => addF fun tb kb => ?_) (by mul_fits)) (by decide) (hdiv _ (by decide))) hk k1))) (by decide)) hk k1)))
  refine itemSS q3 (by decide) i30 i31 fun t7 k8 => addSS l5 l3 fun t8 k9 => hT3 _ _ ?_
  exact constS fun t2 k3 => addSS l6 (by rw [q5]; decide) fun t9 k9 => h _ _
theorem mode_eval {p1 p2 p3 p4 p5 p6 p7 p8 p9 p10 p11 p12 p13 : Pos} (F : Fr g L hp m) (mr : m (Str.ofString "rights") = some (.int r tr)) (h : ∀ t tk', Q (.int (modeE r) t) ⟨hp, gs, dr, tk', os⟩)
    (hk : scope.kind = .function := by rfl) (k1 : (envOf qual scope L a cd).kindOf (Str.ofString "rights") = some .local := by rfl) :
    wpAny (model prog w) A (eval (.BinOp (.BinOp (.Constant (.int 32768) 0 p1) .Add (.BinOp (.BinOp (.Name (Str.ofString "rights") p2) .Mod (.Constant (.int 8) 0 p3) p4) .Mult (.Constant (.int 64) 0 p5) p6) p7) .Add (.BinOp (.BinOp (.Name (Str.ofString "rights") p8) .FloorDiv (.Constant (.int 8) 0 p9) p10) .Mult (.Constant (.int 2048) 0 p11) p12) p13) (envOf qual scope L a cd)) Q E ⟨hp, gs, dr, tk, os⟩ := by
  have hdiv : ∀ b : Int, b.natAbs < 1073741824 → Builtin.divisionGoesByPylong (r : Int) b = false := fun b hb => PyProof.noPylong_small hb
  refine wpAny_BinOp (wpAny_BinOp (constI fun t1 q1 => wpAny_BinOp (wpAny_BinOp (ldF F mr (constI fun t2 q2 => modF (fun t3 q3 => constI fun t4 q4 => mulF (fun t5 q5 => addF fun t6 q6 => ?_) (by mul_fits)) (by decide)) hk k1))))
  exact wpAny_BinOp (wpAny_BinOp (ldF F mr (constI fun t7 q7 => divF (fun t8 q8 => constI fun t9 q9 => mulF (fun ta qa => addF fun tb qb => h _ _) (by mul_fits)) (by decide) (hdiv _ (by decide))) hk k1))
end
theorem law_spec {prog : Program} {w : World} {A : Around} {s : Shared} {mg mb : Str → Option Value} {R : Result → Shared → Prop} {l : Addr} {svs : List Value} {ns : List Int}
    (S : Site w mg mb s.heap) (hroom : A.depth + 5 < recursionLimit) (hu : A.units + 70 < cLine) (hh : A.handled = none) (hl : s.heap.IsList l svs.toArray) (hI : IntsAre svs ns) (hlen : ns.length ≤ 63)
    (P2 : ∀ r < 16, ∀ qs : List (Int × Str), qs.Pairwise (fun p q => ltP p q = true) → (∀ p, p ∈ qs ↔ p ∈ duePairs (placesOf ns) r) → runL (lstE r) (joinE ((placesOf ns).map charS)) = (qs.take 4).map (·.2))
    (P3 : ∀ r < 16, ∀ qs : List (Int × Str), qs.Nodup → (∀ q ∈ qs, q ∈ duePairs (placesOf ns) r) → qs.length < 64)
    (h : ∀ h' d tk, Kept [] s.heap h' → R (.ok (.ret (.bool true))) { s with heap := h', drawn := d, toks := tk }) :
    codeAny (model prog w) A (.call (.ref 155) ⟨[.ref l], []⟩) R s := by
  refine enterX S (by rfl) (by rfl) (less0 hroom) (BindsTo.of_eq rfl) (locs rfl) fun h₁ A' m0 tkx T hdA huA hhA hm0 F hT _ => ?_
  replace hhA := hhA.trans hh
  have hdp : A'.depth + 4 < recursionLimit := by rw [hdA]; exact hroom
  have hun : A'.units + 67 < cLine := by rw [huA]; exact hu
  have ms : m0 "script" = some (.ref l) := hm0 _
  clear hm0
  obtain ⟨hp, gs, dr, tk0, os⟩ := s
  dsimp only at *
  generalize hLs : hp.objs.size = L at *
  have hsv : svs.length ≤ 10000 := by rw [hI.length]; exact Nat.le_trans hlen (by decide)
  -- places
  refine wpAny_execs_cons ?_
  with_reducible refine wpAny_Assign_Name ?ha1 ?ha2
  case ha2 => rfl
  refine wpAny_BinOp (List_ (spliced_more (constI fun t1 k1 => spliced_more (constI fun t2 k2 => spliced_none (newF F (by simp) fun h2 la F2 K2 o2 n2 laL la0 => ?_)))))
  refine mod_comp hhA rfl (by decide) rfl (by decide) rfl (by intro _; rfl) (slice_uptoI (n := 2) (ldF F2 ms ?_))
  refine ⟨l, svs, h2, gs, dr, _, os, rfl, rfl, hl.at fun o e => F2.keep _ _ e, hsv, fun h3 D3 tk3 K3 n3 o3 => ?_⟩
  refine ⟨D3, svs.take 2, ns.take 2, 0, h3, gs, dr, tk3, os, rfl, rfl, o3, hI.take 2, Nat.le_trans (List.length_take_le _ _) (by decide), fun D4 ys4 h4 tk4 e4 K4 n4 o4 i4 => ?_⟩
  have hy4 : ys4.length ≤ 2 := by rw [i4.length, List.length_map]; exact List.length_take_le _ _
  refine addL_at (s := ⟨h4, gs, dr, tk4, os⟩) (K4 _ _ (K3 _ _ o2)) o4 (by simp; lia) ?_
  have F5 := ((F2.kept K3).kept K4).push (lo ([Value.int 3 t1, .int 1 t2] ++ ys4) 0)
  have o5 : (h4.push (lo ([Value.int 3 t1, .int 1 t2] ++ ys4) 0)).get? h4.objs.size = some (lo ([Value.int 3 t1, .int 1 t2] ++ ys4) 0) := Heap.get?_push_size _ rfl
  have hpv : IntsAre ([Value.int 3 t1, .int 1 t2] ++ ys4) ((placesOf ns).map Int.ofNat) := by
    rw [places_ints]; exact IntsAre.append (.cons _ _ (.cons _ _ .nil)) i4
  dsimp only at o5 F5 ⊢
  have hplL : h4.objs.size ≠ L := Nat.ne_of_gt ((F2.kept K3).kept K4).ns.lt
  generalize h4.push (lo ([Value.int 3 t1, .int 1 t2] ++ ys4) 0) = h5 at *
  generalize h4.objs.size = pl at *
  generalize [Value.int 3 t1, .int 1 t2] ++ ys4 = pvs at *
  clear o2 n2 la0 o3 n3 o4 n4 i4 hy4 F2 K2 K3 K4 F
  refine stF F5 fun h6 k6 F6 K6 => ?_
  have o6 := K6 _ _ hplL o5
  clear o5 F5 K6
  -- rights
  refine wpAny_execs_cons ?_
  with_reducible refine wpAny_Assign_Name ?hb1 ?hb2
  case hb2 => rfl
  refine wpAny_BinOp (wpAny_BinOp (constI fun t1 k1 => Call_ (globBF F6 S (by rfl) boot_sum (by decide) (callWith_builtin1 (spliced_more (slice_uptoI (n := 6) (ldF F6 ms ?_)))))))
  refine ⟨l, svs, h6, gs, dr, _, os, rfl, rfl, hl.at fun o e => F6.keep _ _ e, hsv, fun h7 D7 tk7 K7 n7 o7 => spliced_none (sumF hhA (isList_of o7) (hI.take 6) fun h8 tk8 t8 K8 => addF fun t9 k9 => constI fun ta ka => modF (fun tr kr => ?_) (by decide))⟩
  have F8 := (F6.kept K7).kept K8
  have o8 := K8 _ _ (K7 _ _ o6)
  have hr0 := Int.fmod_nonneg_of_pos (6 + (ns.take 6).sum) (b := 16) (by decide)
  have hr1 := Int.fmod_lt_of_pos (6 + (ns.take 6).sum) (b := 16) (by decide)
  obtain ⟨r, hr⟩ := Int.eq_ofNat_of_zero_le hr0
  rw [hr] at hr1 ⊢
  have hr16 : r < 16 := by lia
  refine stF F8 fun h9 k9 F9 K9 => ?_
  have o9 := K9 _ _ hplL o8
  clear o8 F8 K9 K8 K7 o7 o6 F6 hr0 hr1 hr
  -- listing
  have hdiv : ∀ b : Int, b.natAbs < 1073741824 → Builtin.divisionGoesByPylong (r : Int) b = false := fun b hb => PyProof.noPylong_small hb
  refine wpAny_execs_cons ?_
  with_reducible refine wpAny_Assign_Name ?hc1 ?hc2
  case hc2 => rfl
  refine Call_ (globF F9 S (by rfl) (callWith_K S.X (by rfl) (spliced_more ?_)))
  refine mode_eval F9 rfl fun _ _ => spliced_none ⟨S.X.keeps F9.keep, wpAny_call ?_⟩
  refine filemode_spec (s := ⟨h9, gs, dr, _, os⟩) (S.keeps F9.keep) (lessN hdp) hhA fun h10 k10 t10 K10 => ?_
  have F10 := F9.kept fun b o e => K10 b o (by simp) e
  have o10 := K10 _ _ (by simp) o9
  show wpAny _ _ (storeName _ _ (.str (fmL (modeE r)) t10)) _ _ _
  rw [lst_ok r hr16]
  refine stF F10 fun h11 k11 F11 K11 => ?_
  have o11 := K11 _ _ hplL o10
  clear o10 F10 K11 K10 o9 F9
  -- if listing != ...
  refine wpAny_execs_cons (wpAny_If (wpAny_isTrue_Compare1 (ldF F11 rfl (lst_eval F11 rfl hr16 fun _ _ => ne_str (wpAny_truthy_bool ?_)))))
  with_reducible refine itF ?hc ?_
  case hc => simp
  refine wpAny_execs_nil ?_
  -- return
  have hx4 : (joinE ((placesOf ns).map charS)).length ≤ 30 := by
    have h1 := joinE_len1 (xs := (placesOf ns).map charS) fun x hx => by
      obtain ⟨p, hp', rfl⟩ := List.mem_map.mp hx
      exact char_len p (places_six ns p hp')
    rw [List.length_map] at h1
    have := places_len ns
    lia
  refine wpAny_execs_cons (wpAny_Return_some (wpAny_Compare1 (Call_ (globF F11 S (by rfl) (callWith_K S.X (by rfl) (spliced_more ?_))))))
  with_reducible refine join_call (pl := ?pl) (xs := (placesOf ns).map charS) ?hn (fun x hx => ?_) (fun tk12 => ?_) ?he
  case hn => rw [List.length_map]; have := places_len ns; lia
  case he => rfl
  · obtain ⟨p, hp', rfl⟩ := List.mem_map.mp hx
    exact Nat.le_trans (char_len p (places_six ns p hp')) (by decide)
  refine char_comp (ps := placesOf ns) hhA (fun Q E hq => ldF F11 rfl hq) o11 hpv (places_six ns) (places_len ns) rfl (by decide) rfl (by decide) rfl (by intro _; rfl) fun D12 ys12 h12 k12 e12 K12 o12 s12 => ?_
  have F12 := F11.kept K12
  refine ⟨D12, ys12, e12, h12, k12, rfl, rfl, o12, s12, fun t13 k13 => ?_⟩
  refine spliced_more (ldF F12 rfl (spliced_none ⟨S.X.keeps F12.keep, wpAny_call ?_⟩))
  refine run_spec (s := ⟨h12, gs, dr, _, os⟩) (S.keeps F12.keep) (lessN hdp) (lessN hun) hhA (by rw [lst_len r hr16]; decide) hx4 fun h14 k14 d14 vs14 e14 K14 o14 n14 s14 => ?_
  have F14 := F12.kept fun b o e => K14 b o (by simp) e
  have p14 := K14 _ _ (by simp) (K12 _ _ o11)
  refine Call_ (globF F14 S (by rfl) (callWith_K S.X (by rfl) (spliced_more (ldF F14 rfl (spliced_more (ldF F14 rfl (spliced_none ⟨S.X.keeps F14.keep, wpAny_call ?_⟩)))))))
  refine due_spec (s := ⟨h14, gs, dr, _, os⟩) (S.keeps F14.keep) (lessN hdp) hhA (lessN hun) p14 hpv (places_six ns) (places_len ns) hr16 (P3 r hr16) fun qs h15 d15 k15 D15 ys15 e15 srt mem K15 o15 s15 => ?_
  rw [← P2 r hr16 qs srt mem] at s15
  refine eq_strs (less0 hun) (K15 _ _ (by simp) o14) o15 s14 s15 ?_
  exact hT _ _ (h h15 d15 k15 fun b o _ e => K15 b o (by simp) (F14.keep b o e))

/-! the run by lists of signs -/
noncomputable abbrev N2 := Nat × List Nat
noncomputable abbrev dN : N2 := (0, [])
noncomputable def lexN : List Nat → List Nat → Bool
  | _, [] => false
  | [], _ :: _ => true
  | a :: x, b :: y => bif Nat.beq a b then lexN x y else Nat.blt a b
noncomputable def ltN (p q : N2) : Bool := bif Nat.beq p.1 q.1 then lexN p.2 q.2 else Nat.blt p.1 q.1
noncomputable def eqN : List Nat → List Nat → Bool
  | [], [] => true
  | a :: x, b :: y => bif Nat.beq a b then eqN x y else false
  | _, _ => false
noncomputable def ψ (x : List Nat) : Str := ⟨x.toArray⟩
noncomputable def φ (p : N2) : P2 := ((p.1 : Int), ψ p.2)
theorem ψ_inj {x y : List Nat} (h : ψ x = ψ y) : x = y := by
  have : (ψ x).cps.toList = (ψ y).cps.toList := by rw [h]
  exact this
theorem ψ_list (x : Str) : ψ x.cps.toList = x := rfl
theorem beqN {a b : Nat} (h : a ≠ b) : Nat.beq a b = false := by
  cases q : Nat.beq a b with
  | false => rfl
  | true => exact absurd (Nat.eq_of_beq_eq_true q) h
theorem lexN_eq : ∀ x y : List Nat, lexN x y = decide (x < y)
  | x, [] => by
    rw [lexN.eq_def]
    exact (decide_eq_false (List.not_lt_nil x)).symm
  | [], b :: y => (decide_eq_true (List.nil_lt_cons b y)).symm
  | a :: x, b :: y => by
    show (bif Nat.beq a b then lexN x y else Nat.blt a b) = _
    rw [lexN_eq x y]
    by_cases h : a = b
    · subst h
      rw [show Nat.beq a a = true from Nat.beq_refl a, cond_true]
      refine decide_eq_decide.mpr ?_
      rw [List.cons_lt_cons_iff]
      constructor
      · exact fun q => .inr ⟨rfl, q⟩
      · rintro (q | q)
        · exact absurd q (Nat.lt_irrefl _)
        · exact q.2
    · rw [beqN h, cond_false]
      rw [show Nat.blt a b = decide (a < b) by rw [Bool.eq_iff_iff]; simp]
      refine decide_eq_decide.mpr ?_
      rw [List.cons_lt_cons_iff]
      constructor
      · exact fun q => .inl q
      · rintro (q | q)
        · exact q
        · exact absurd q.1 h
theorem ltN_eq (p q : N2) : ltP (φ p) (φ q) = ltN p q := by
  unfold ltP ltN
  show (if (p.1 : Int) = (q.1 : Int) then decide (p.2 < q.2) else decide ((p.1 : Int) < (q.1 : Int))) = _
  by_cases h : p.1 = q.1
  · rw [if_pos (by rw [h]), h, show Nat.beq q.1 q.1 = true from Nat.beq_refl _, cond_true, lexN_eq]
  · rw [if_neg (by lia), beqN h, cond_false]
    rw [Bool.eq_iff_iff]; simp
theorem eqN_eq : ∀ x y : List Nat, eqN x y = decide (x = y)
  | [], [] => rfl
  | [], b :: y => rfl
  | a :: x, [] => rfl
  | a :: x, b :: y => by
    show (bif Nat.beq a b then eqN x y else false) = _
    rw [eqN_eq x y]
    by_cases h : a = b
    · subst h
      rw [show Nat.beq a a = true from Nat.beq_refl a, cond_true]
      exact decide_eq_decide.mpr ⟨fun q => by rw [q], fun q => (List.cons.inj q).2⟩
    · rw [beqN h, cond_false]
      exact (decide_eq_false fun q => h (List.cons.inj q).1).symm
noncomputable def pushN (st : List N2 × List (List Nat)) (x : List Nat) : List N2 × List (List Nat) := bif st.2.any (eqN x) then st else (hpush ltN dN st.1 (x.length, x), st.2 ++ [x])
noncomputable def runN (ks : List Nat) : Nat → List N2 → List (List Nat) → List (List Nat) → List (List Nat)
  | 0, _, _, came => came
  | n + 1, ps, seen, came => bif ps.isEmpty then came else
    runN ks n ((ks.map fun k => escL k (hpop ltN dN ps).1.2).foldl pushN ((hpop ltN dN ps).2, seen)).1 ((ks.map fun k => escL k (hpop ltN dN ps).1.2).foldl pushN ((hpop ltN dN ps).2, seen)).2 (came ++ [(hpop ltN dN ps).1.2])
theorem any_ψ (x : List Nat) : ∀ l : List (List Nat), (l.map ψ).any (· == ψ x) = l.any (eqN x)
  | [] => rfl
  | y :: l => by
    rw [List.map_cons, List.any_cons, List.any_cons, any_ψ x l, eqN_eq]
    congr 1
    rw [Bool.eq_iff_iff, beq_iff_eq, decide_eq_true_iff]
    exact ⟨fun q => (ψ_inj q).symm, fun q => by rw [q]⟩
theorem push_nat (st : List N2 × List (List Nat)) (x : List Nat) : pushNew (st.1.map φ, st.2.map ψ) (ψ x) = ((pushN st x).1.map φ, (pushN st x).2.map ψ) := by
  unfold pushNew pushN
  rw [any_ψ]
  cases h : st.2.any (eqN x) with
  | true => rfl
  | false =>
    rw [if_neg Bool.false_ne_true, cond_false]
    dsimp only
    rw [hpush_map φ (lt' := ltP) (d' := dP) rfl (fun a b => ltN_eq a b), List.map_append]
    rfl
theorem fold_nat : ∀ (as : List (List Nat)) (st : List N2 × List (List Nat)), (as.map ψ).foldl pushNew (st.1.map φ, st.2.map ψ) = (((as.foldl pushN st).1).map φ, ((as.foldl pushN st).2).map ψ)
  | [], st => rfl
  | a :: as, st => by
    rw [List.map_cons, List.foldl_cons, List.foldl_cons, push_nat, fold_nat as (pushN st a)]
/-- which writers a listing names -/
theorem lst_bits : ∀ r < 16, (Txt.item (lstE r) 1 == Str.ofString "r") = bitOn r 0 ∧ (Txt.item (lstE r) 2 == Str.ofString "w") = bitOn r 1 ∧ ([Str.ofString "x", Str.ofString "s"].any (· == Txt.item (lstE r) 3)) = bitOn r 2 ∧ ([Str.ofString "s", Str.ofString "S"].any (· == Txt.item (lstE r) 3)) = bitOn r 3 := by decide +kernel
noncomputable def oneIfN (b : Bool) (k : Nat) : List Nat := if b then [k] else []
theorem made_nat {r : Nat} (hr : r < 16) (x : List Nat) : madeL (lstE r) (ψ x) = ((might r 4).map fun k => escL k x).map ψ := by
  obtain ⟨h0, h1, h2, h3⟩ := lst_bits r hr
  unfold madeL
  rw [h0, h1, h2, h3]
  have e : might r 4 = oneIfN (bitOn r 0) 0 ++ oneIfN (bitOn r 1) 1 ++ oneIfN (bitOn r 2) 2 ++ oneIfN (bitOn r 3) 3 := by
    show List.filter (bitOn r) [0, 1, 2, 3] = _
    simp only [List.filter_cons, List.filter_nil, oneIfN]
    cases bitOn r 0 <;> cases bitOn r 1 <;> cases bitOn r 2 <;> cases bitOn r 3 <;> rfl
  rw [e]
  cases bitOn r 0 <;> cases bitOn r 1 <;> cases bitOn r 2 <;> cases bitOn r 3 <;> rfl
theorem run_nat {r : Nat} (hr : r < 16) : ∀ (n : Nat) (ps : List N2) (seen came : List (List Nat)), runW (lstE r) n (ps.map φ) (seen.map ψ) (came.map ψ) = (runN (might r 4) n ps seen came).map ψ
  | 0, ps, seen, came => rfl
  | n + 1, ps, seen, came => by
    cases ps with
    | nil => rfl
    | cons p ps =>
      rw [runW_succ (by simp)]
      show _ = List.map ψ (runN (might r 4) n _ _ _)
      rw [hpop_map φ (lt := ltN) (lt' := ltP) (d := dN) (d' := dP) rfl (fun a b => ltN_eq a b)]
      dsimp only
      rw [← run_nat hr n]
      have e1 : (φ (hpop ltN dN (p :: ps)).1).2 = ψ (hpop ltN dN (p :: ps)).1.2 := rfl
      rw [e1, made_nat hr, fold_nat (List.map (fun k => escL k (hpop ltN dN (p :: ps)).1.2) (might r 4)) ((hpop ltN dN (p :: ps)).2, seen), List.map_append]
      rfl

noncomputable def tblN (p : Nat) : List (List Nat) := match p with
  | 0 => [[97, 109, 112, 59], [97, 109, 112, 59], [97, 109, 112, 59], [97, 109, 112, 59]]
  | 1 => [[108, 116, 59], [108, 116, 59], [], [108, 116, 59]]
  | 2 => [[103, 116, 59], [103, 116, 59], [103, 116, 59], []]
  | 3 => [[], [113, 117, 111, 116, 59], [113, 117, 111, 116, 59], [113, 117, 111, 116, 59]]
  | 4 => [[], [35, 48, 57, 59], [], [35, 120, 57, 59]]
  | _ => [[], [], [], []]
noncomputable def charN (p : Nat) : Nat := match p with
  | 0 => 38
  | 1 => 60
  | 2 => 62
  | 3 => 34
  | 4 => 9
  | _ => 97
noncomputable def ampN : Nat → List Nat → List Nat
  | 0, z => z
  | n + 1, z => 97 :: 109 :: 112 :: 59 :: ampN n z
noncomputable def spellN (p : Nat) : List Nat → List Nat
  | [] => [charN p]
  | k :: r => match (tblN p).getD k [] with
    | [] => spellN p r
    | c :: z => 38 :: ampN r.length (c :: z)
theorem spell_nat : ∀ r < 16, ∀ ws ∈ ordN (might r 4) 3, ∀ p < 6, (spell p ws).cps.toList = spellN p ws := by decide +kernel
theorem char_nat : ∀ p < 6, (charS p).cps.toList = [charN p] := by decide +kernel
noncomputable def repsAll : List (List (List Nat)) :=
  [[[]],
   [[], [2], [2, 2], [2, 2, 2]],
   [[], [1], [1, 1], [1, 1, 1]],
   [[], [1], [2], [1, 1], [2, 1], [2, 2], [1, 1, 1], [2, 1, 1], [2, 2, 1], [2, 2, 2]],
   [[], [0], [0, 0], [0, 0, 0]],
   [[], [0], [2], [0, 0], [0, 2], [2, 0], [2, 2], [0, 0, 0], [0, 0, 2], [0, 2, 0], [2, 0, 0], [2, 2, 0], [2, 2, 2]],
   [[], [0], [1], [0, 0], [0, 1], [1, 0], [0, 0, 0], [0, 0, 1], [0, 1, 0], [1, 0, 0]],
   [[], [0], [1], [2], [0, 0], [0, 1], [0, 2], [1, 0], [2, 0], [2, 1], [2, 2], [0, 0, 0], [0, 0, 1], [0, 0, 2], [0, 1, 0], [0, 2, 0], [0, 2, 1], [1, 0, 0], [2, 0, 0], [2, 0, 1], [2, 1, 0], [2, 2, 0], [2, 2, 1], [2, 2, 2]],
   [[], [3], [3, 3], [3, 3, 3]],
   [[], [2], [3], [2, 2], [2, 3], [3, 2], [3, 3], [2, 2, 2], [2, 2, 3], [2, 3, 2], [3, 2, 2], [3, 3, 2], [3, 3, 3]],
   [[], [1], [3], [1, 1], [3, 1], [3, 3], [1, 1, 1], [3, 1, 1], [3, 3, 1], [3, 3, 3]],
   [[], [1], [2], [3], [1, 1], [2, 1], [2, 2], [2, 3], [3, 1], [3, 3], [1, 1, 1], [2, 1, 1], [2, 2, 1], [2, 2, 2], [2, 2, 3], [2, 3, 1], [3, 1, 1], [3, 3, 1], [3, 3, 3]],
   [[], [0], [3], [0, 0], [0, 3], [3, 0], [3, 3], [0, 0, 0], [0, 0, 3], [0, 3, 0], [3, 0, 0], [3, 3, 0], [3, 3, 3]],
   [[], [0], [2], [3], [0, 0], [0, 2], [0, 3], [2, 0], [2, 2], [2, 3], [3, 0], [3, 3], [0, 0, 0], [0, 0, 2], [0, 0, 3], [0, 2, 0], [0, 2, 3], [0, 3, 0], [2, 0, 0], [2, 0, 3], [2, 2, 0], [2, 2, 2], [2, 2, 3], [2, 3, 0], [3, 0, 0], [3, 3, 0], [3, 3, 3]],
   [[], [0], [1], [3], [0, 0], [0, 1], [0, 3], [1, 0], [3, 0], [3, 3], [0, 0, 0], [0, 0, 1], [0, 0, 3], [0, 1, 0], [0, 3, 0], [1, 0, 0], [3, 0, 0], [3, 3, 0], [3, 3, 3]],
   [[], [0], [1], [2], [3], [0, 0], [0, 1], [0, 2], [0, 3], [1, 0], [2, 0], [2, 1], [2, 2], [2, 3], [3, 0], [3, 3], [0, 0, 0], [0, 0, 1], [0, 0, 2], [0, 0, 3], [0, 1, 0], [0, 2, 0], [0, 2, 1], [0, 2, 3], [0, 3, 0], [1, 0, 0], [2, 0, 0], [2, 0, 1], [2, 0, 3], [2, 1, 0], [2, 2, 0], [2, 2, 1], [2, 2, 2], [2, 2, 3], [2, 3, 0], [3, 0, 0], [3, 3, 0], [3, 3, 3]]]
noncomputable def reps (r : Nat) : List (List Nat) := repsAll.getD r []
noncomputable def sameN (ws v : List Nat) : Bool := [0, 1, 2, 3, 4, 5].all fun p => eqN (spellN p ws) (spellN p v)
theorem reps_all : ∀ r < 16, ((ordN (might r 4) 3).all fun ws => (reps r).any (sameN ws)) = true := by decide +kernel
theorem reps_in : ∀ r < 16, ∀ v ∈ reps r, v ∈ ordN (might r 4) 3 := by decide +kernel
theorem reps_few : ∀ r < 16, (reps r).length < 64 := by decide +kernel
noncomputable def textN (ps ws : List Nat) : List Nat := ps.flatMap fun p => spellN p ws
noncomputable def mkN (x : List Nat) : N2 := (x.length, x)
noncomputable def sortedN : List (List Nat) → Bool
  | [] => true
  | x :: l => l.all (fun y => ltN (mkN x) (mkN y)) && sortedN l
noncomputable def chkW (ws texts : List (List Nat)) : Bool := Nat.ble ws.length 4 && sortedN ws && ws.all (fun x => texts.any (eqN x)) && texts.all fun t => ws.any (eqN t) || (Nat.beq ws.length 4 && ws.all fun x => ltN (mkN x) (mkN t))
noncomputable def chk (r : Nat) (ps : List Nat) : Bool := chkW (runN (might r 4) 4 [mkN (ps.map charN)] [ps.map charN] []) ((reps r).map (textN ps))
noncomputable def allPs : List (List Nat) := [3, 1] :: (List.range 6).map (fun a => [3, 1, a]) ++ (List.range 6).flatMap fun a => (List.range 6).map fun b => [3, 1, a, b]

theorem fold_cps : ∀ (xs : List Str) (a : Array Nat), (xs.foldl (fun acc (p : Str) => acc ++ (Str.ofString "").cps ++ p.cps) a).toList = a.toList ++ xs.flatMap fun x => x.cps.toList
  | [], a => by simp
  | x :: xs, a => by
    rw [List.foldl_cons, fold_cps xs, List.flatMap_cons]
    have h3 : (Str.ofString "").cps = #[] := rfl
    simp [h3]
theorem joinE_list (xs : List Str) : (joinE xs).cps.toList = xs.flatMap fun x => x.cps.toList := by
  cases xs with
  | nil => rfl
  | cons x xs =>
    show (xs.foldl (fun acc (p : Str) => acc ++ (Str.ofString "").cps ++ p.cps) x.cps).toList = _
    rw [fold_cps, List.flatMap_cons]
theorem join_char {ps : List Nat} (h6 : ∀ p ∈ ps, p < 6) : joinE (ps.map charS) = ψ (ps.map charN) := by
  rw [← ψ_list (joinE _), joinE_list, List.flatMap_map]
  congr 1
  induction ps with
  | nil => rfl
  | cons p ps ih =>
    rw [List.flatMap_cons, List.map_cons, ih fun q hq => h6 q (.tail _ hq), char_nat p (h6 p (.head _))]
    rfl
theorem textOf_nat {r : Nat} (hr : r < 16) {ps ws : List Nat} (h6 : ∀ p ∈ ps, p < 6) (hws : ws ∈ ordN (might r 4) 3) : textOf ps ws = ψ (textN ps ws) := by
  unfold textOf textN
  rw [← ψ_list (joinE _), joinE_list, List.flatMap_map]
  congr 1
  induction ps with
  | nil => rfl
  | cons p ps ih =>
    rw [List.flatMap_cons, List.flatMap_cons, ih fun q hq => h6 q (.tail _ hq), spell_nat r hr ws hws p (h6 p (.head _))]
theorem same_text {ps ws v : List Nat} (h6 : ∀ p ∈ ps, p < 6) (h : sameN ws v = true) : textN ps ws = textN ps v := by
  have key : ∀ p, p < 6 → spellN p ws = spellN p v := fun p hp => by
    have h1 := List.all_eq_true.mp h p (by simp; lia)
    rw [eqN_eq] at h1
    exact of_decide_eq_true h1
  unfold textN
  induction ps with
  | nil => rfl
  | cons p ps ih => rw [List.flatMap_cons, List.flatMap_cons, key p (h6 p (.head _)), ih fun q hq => h6 q (.tail _ hq)]
noncomputable def dueN (ps : List Nat) (r : Nat) : List P2 := ((reps r).map (textN ps)).map fun x => φ (mkN x)
theorem mem_due {r : Nat} (hr : r < 16) {ps : List Nat} (h6 : ∀ p ∈ ps, p < 6) (p : P2) : p ∈ duePairs ps r ↔ p ∈ dueN ps r := by
  have hone : ∀ ws, ws ∈ ordN (might r 4) 3 → ((((textOf ps ws).length : Int), textOf ps ws) : P2) = φ (mkN (textN ps ws)) := fun ws hws => by
    rw [textOf_nat hr h6 hws]; simp [φ, mkN, ψ, Str.length]
  unfold duePairs dueN
  rw [List.map_map, List.map_map]
  constructor
  · intro h
    obtain ⟨ws, hws, rfl⟩ := List.mem_map.mp h
    obtain ⟨v, hv, hs⟩ := List.any_eq_true.mp (List.all_eq_true.mp (reps_all r hr) ws hws)
    refine List.mem_map.mpr ⟨v, hv, ?_⟩
    show φ (mkN (textN ps v)) = _
    rw [← same_text h6 hs]
    exact (hone ws hws).symm
  · intro h
    obtain ⟨v, hv, rfl⟩ := List.mem_map.mp h
    exact List.mem_map.mpr ⟨v, reps_in r hr v hv, hone v (reps_in r hr v hv)⟩
theorem ltP_asymm {p q : P2} (h : ltP p q = true) (h' : ltP q p = true) : False := ltP_ne (ltP_trans h h') rfl
theorem sorted_unique : ∀ {l m : List P2}, l.Pairwise (fun p q => ltP p q = true) → m.Pairwise (fun p q => ltP p q = true) → (∀ p, p ∈ l ↔ p ∈ m) → l = m
  | [], [], _, _, _ => rfl
  | [], b :: m, _, _, h => nomatch (h b).mpr (.head _)
  | a :: l, [], _, _, h => nomatch (h a).mp (.head _)
  | a :: l, b :: m, hl, hm, h => by
    obtain ⟨hl1, hl2⟩ := List.pairwise_cons.mp hl
    obtain ⟨hm1, hm2⟩ := List.pairwise_cons.mp hm
    have hab : a = b := by
      rcases List.mem_cons.mp ((h a).mp (.head _)) with q | q
      · exact q
      · rcases List.mem_cons.mp ((h b).mpr (.head _)) with q' | q'
        · exact q'.symm
        · exact (ltP_asymm (hl1 b q') (hm1 a q)).elim
    subst hab
    rw [sorted_unique hl2 hm2 fun p => ?_]
    constructor
    · intro hp
      rcases List.mem_cons.mp ((h p).mp (.tail _ hp)) with q | q
      · exact absurd q (ltP_ne (hl1 p hp)).symm
      · exact q
    · intro hp
      rcases List.mem_cons.mp ((h p).mpr (.tail _ hp)) with q | q
      · exact absurd q (ltP_ne (hm1 p hp)).symm
      · exact q
theorem sortedN_ok : ∀ {ws : List (List Nat)}, sortedN ws = true → (ws.map fun x => φ (mkN x)).Pairwise (fun p q => ltP p q = true)
  | [], _ => List.Pairwise.nil
  | x :: l, h => by
    obtain ⟨h1, h2⟩ := Bool.and_eq_true_iff.mp h
    rw [List.map_cons]
    refine List.pairwise_cons.mpr ⟨fun p hp => ?_, sortedN_ok h2⟩
    obtain ⟨y, hy, rfl⟩ := List.mem_map.mp hp
    rw [ltN_eq]
    exact List.all_eq_true.mp h1 y hy
/-- the first four of the sorted list, by a check -/
theorem chk_take {ws texts : List (List Nat)} (h : chkW ws texts = true) {qs : List P2} (hs : qs.Pairwise (fun p q => ltP p q = true)) (hm : ∀ p, p ∈ qs ↔ p ∈ texts.map fun x => φ (mkN x)) : qs.take 4 = ws.map fun x => φ (mkN x) := by
  unfold chkW at h
  obtain ⟨h123, h4⟩ := Bool.and_eq_true_iff.mp h
  obtain ⟨h12, h3⟩ := Bool.and_eq_true_iff.mp h123
  obtain ⟨h1, h2⟩ := Bool.and_eq_true_iff.mp h12
  have hlen : ws.length ≤ 4 := Nat.le_of_ble_eq_true h1
  have eqE : ∀ {x y : List Nat}, eqN x y = true → x = y := fun {x y} q => by rw [eqN_eq] at q; exact of_decide_eq_true q
  have hwq : ∀ p ∈ ws.map (fun x => φ (mkN x)), p ∈ qs := fun p hp => by
    obtain ⟨x, hx, rfl⟩ := List.mem_map.mp hp
    obtain ⟨t, ht, q⟩ := List.any_eq_true.mp (List.all_eq_true.mp h3 x hx)
    exact (hm _).mpr (List.mem_map.mpr ⟨t, ht, by rw [eqE q]⟩)
  have hcase : ∀ p ∈ qs, p ∈ ws.map (fun x => φ (mkN x)) ∨ (ws.length = 4 ∧ ∀ y ∈ ws.map (fun x => φ (mkN x)), ltP y p = true) := fun p hp => by
    obtain ⟨t, ht, rfl⟩ := List.mem_map.mp ((hm p).mp hp)
    rcases Bool.or_eq_true_iff.mp (List.all_eq_true.mp h4 t ht) with q | q
    · obtain ⟨x, hx, q⟩ := List.any_eq_true.mp q
      exact .inl (List.mem_map.mpr ⟨x, hx, by rw [eqE q]⟩)
    · obtain ⟨q1, q2⟩ := Bool.and_eq_true_iff.mp q
      refine .inr ⟨Nat.eq_of_beq_eq_true q1, fun y hy => ?_⟩
      obtain ⟨x, hx, rfl⟩ := List.mem_map.mp hy
      rw [ltN_eq]
      exact List.all_eq_true.mp q2 x hx
  generalize hW : ws.map (fun x => φ (mkN x)) = W at *
  have hWs : W.Pairwise (fun p q => ltP p q = true) := hW ▸ sortedN_ok h2
  have hWl : W.length = ws.length := by rw [← hW, List.length_map]
  have hq : qs = W ++ qs.filter fun p => decide (p ∉ W) := by
    refine sorted_unique hs (List.pairwise_append.mpr ⟨hWs, hs.filter _, fun a ha b hb => ?_⟩) fun p => ?_
    · obtain ⟨hb1, hb2⟩ := List.mem_filter.mp hb
      rcases hcase b hb1 with q | q
      · exact absurd q (of_decide_eq_true hb2)
      · exact q.2 a ha
    · constructor
      · intro hp
        by_cases q : p ∈ W
        · exact List.mem_append.mpr (.inl q)
        · exact List.mem_append.mpr (.inr (List.mem_filter.mpr ⟨hp, decide_eq_true q⟩))
      · intro hp
        rcases List.mem_append.mp hp with q | q
        · exact hwq p q
        · exact (List.mem_filter.mp q).1
  by_cases hl4 : ws.length = 4
  · rw [hq]
    exact List.take_left' (by lia)
  · have hnil : (qs.filter fun p => decide (p ∉ W)) = [] := by
      refine List.filter_eq_nil_iff.mpr fun p hp q => ?_
      rcases hcase p hp with z | z
      · exact absurd z (of_decide_eq_true q)
      · exact hl4 z.1
    rw [hq, hnil, List.append_nil]
    exact List.take_of_length_le (by lia)
theorem chk_run {r : Nat} (hr : r < 16) {ps : List Nat} (h6 : ∀ p ∈ ps, p < 6) (h : chk r ps = true) {qs : List P2} (hs : qs.Pairwise (fun p q => ltP p q = true)) (hm : ∀ p, p ∈ qs ↔ p ∈ duePairs ps r) :
    runL (lstE r) (joinE (ps.map charS)) = (qs.take 4).map (·.2) := by
  rw [chk_take h hs fun p => (hm p).trans (mem_due hr h6 p), join_char h6, List.map_map]
  unfold runL
  have e := run_nat hr 4 [mkN (ps.map charN)] [ps.map charN] []
  have e2 : (([mkN (ps.map charN)] : List N2).map φ) = [(((ψ (ps.map charN)).length : Int), ψ (ps.map charN))] := by
    simp [φ, mkN, ψ, Str.length]
  rw [e2] at e
  rw [show ((fun x : P2 => x.2) ∘ fun x => φ (mkN x)) = ψ from rfl]
  exact e
theorem places_in (ns : List Int) : placesOf ns ∈ allPs := by
  have one : ∀ x : Int, (x.fmod 6).toNat ∈ List.range 6 := fun x => by
    have h1 := Int.fmod_lt_of_pos x (b := 6) (by decide)
    have h2 := Int.fmod_nonneg_of_pos x (b := 6) (by decide)
    exact List.mem_range.mpr (by lia)
  unfold allPs
  match ns with
  | [] => exact .head _
  | [x] => exact .tail _ (List.mem_append.mpr (.inl (List.mem_map.mpr ⟨_, one x, rfl⟩)))
  | x :: y :: _ => exact .tail _ (List.mem_append.mpr (.inr (List.mem_flatMap.mpr ⟨_, one x, List.mem_map.mpr ⟨_, one y, rfl⟩⟩)))
theorem nodup_len : ∀ (l m : List P2), l.Nodup → (∀ x ∈ l, x ∈ m) → l.length ≤ m.length
  | [], m, _, _ => Nat.zero_le _
  | a :: l, m, hd, h => by
    obtain ⟨h1, h2⟩ := List.nodup_cons.mp hd
    have ha := h a (.head _)
    have := nodup_len l (m.erase a) h2 fun x hx => (List.mem_erase_of_ne (a := x) (b := a) (fun e : x = a => h1 (e ▸ hx))).mpr (h x (.tail _ hx))
    rw [List.length_erase_of_mem ha] at this
    have hpos : 0 < m.length := List.length_pos_of_mem ha
    rw [List.length_cons]
    lia
theorem pure3 (ns : List Int) : ∀ r < 16, ∀ qs : List (Int × Str), qs.Nodup → (∀ q ∈ qs, q ∈ duePairs (placesOf ns) r) → qs.length < 64 := by
  intro r hr qs hn h
  have := nodup_len qs (dueN (placesOf ns) r) hn fun x hx => (mem_due hr (places_six ns) x).mp (h x hx)
  have h2 : (dueN (placesOf ns) r).length = (reps r).length := by unfold dueN; rw [List.length_map, List.length_map]
  have := reps_few r hr
  lia

/-! the check by numbers: a text is one number, its signs its places to the base 128 -/
noncomputable def enc (x : List Nat) : Nat := x.foldl (fun a c => Nat.add (Nat.mul a 128) c) 0
noncomputable def Small (x : List Nat) : Prop := ∀ c ∈ x, 0 < c ∧ c < 128
theorem enc_from (x : List Nat) : ∀ a, x.foldl (fun a c => Nat.add (Nat.mul a 128) c) a = a * 128 ^ x.length + enc x := by
  unfold enc
  induction x with
  | nil => intro a; show a = a * 1 + 0; rw [Nat.mul_one, Nat.add_zero]
  | cons c x ih =>
    intro a
    rw [List.foldl_cons, List.foldl_cons, ih, ih (Nat.add (Nat.mul 0 128) c), List.length_cons, Nat.pow_succ]
    show (a * 128 + c) * _ + _ = _ + ((0 * 128 + c) * _ + _)
    rw [Nat.zero_mul, Nat.zero_add, Nat.add_mul, Nat.mul_assoc, Nat.mul_comm 128, Nat.add_assoc]
theorem enc_append (x y : List Nat) : enc (x ++ y) = enc x * 128 ^ y.length + enc y := by
  show (x ++ y).foldl _ 0 = _
  rw [List.foldl_append, enc_from y]; rfl
theorem enc_cons (c : Nat) (x : List Nat) : enc (c :: x) = c * 128 ^ x.length + enc x := by
  show x.foldl _ (0 * 128 + c) = _
  rw [enc_from x, Nat.zero_mul, Nat.zero_add]
theorem enc_lt : ∀ {x : List Nat}, Small x → enc x < 128 ^ x.length
  | [], _ => Nat.zero_lt_one
  | c :: x, h => by
    rw [enc_cons, List.length_cons, Nat.pow_succ]
    have h1 := enc_lt (x := x) fun d hd => h d (.tail _ hd)
    have h2 : (c + 1) * 128 ^ x.length ≤ 128 * 128 ^ x.length := Nat.mul_le_mul_right _ (h c (.head _)).2
    rw [Nat.add_mul, Nat.one_mul] at h2
    rw [Nat.mul_comm _ 128]
    lia
theorem enc_ge {c : Nat} {x : List Nat} (h : Small (c :: x)) : 128 ^ x.length ≤ enc (c :: x) := by
  rw [enc_cons]
  have h2 : 1 * 128 ^ x.length ≤ c * 128 ^ x.length := Nat.mul_le_mul_right _ (h c (.head _)).1
  lia
theorem lex_enc : ∀ {x y : List Nat}, Small x → Small y → x.length = y.length → lexN x y = Nat.blt (enc x) (enc y)
  | [], [], _, _, _ => rfl
  | [], _ :: _, _, _, h => nomatch h
  | _ :: _, [], _, _, h => nomatch h
  | a :: x, b :: y, hx, hy, h => by
    have hx' : Small x := fun d hd => hx d (.tail _ hd)
    have hy' : Small y := fun d hd => hy d (.tail _ hd)
    have hl : x.length = y.length := Nat.succ.inj h
    have ih := lex_enc hx' hy' hl
    have b1 := enc_lt hx'
    have b2 := enc_lt hy'
    show (bif Nat.beq a b then lexN x y else Nat.blt a b) = _
    rw [enc_cons, enc_cons, hl]
    rw [hl] at b1
    by_cases e : a = b
    · rw [e, show Nat.beq b b = true from Nat.beq_refl b, cond_true, ih]
      rw [Bool.eq_iff_iff]; simp
    · rw [beqN e, cond_false, Bool.eq_iff_iff]
      simp only [Nat.blt_eq]
      generalize 128 ^ y.length = B at *
      constructor
      · intro q
        have : (a + 1) * B ≤ b * B := Nat.mul_le_mul_right _ q
        rw [Nat.add_mul, Nat.one_mul] at this
        lia
      · intro q
        rcases Nat.lt_or_gt_of_ne e with z | z
        · exact z
        · have : (b + 1) * B ≤ a * B := Nat.mul_le_mul_right _ z
          rw [Nat.add_mul, Nat.one_mul] at this
          lia
theorem enc_len {x y : List Nat} (hx : Small x) (hy : Small y) (h : x.length < y.length) : enc x < enc y := by
  match y, h with
  | b :: y, h =>
    have h1 := enc_lt hx
    have h2 := enc_ge hy
    have h3 : 128 ^ x.length ≤ 128 ^ y.length := Nat.pow_le_pow_right (by decide) (Nat.le_of_lt_succ h)
    lia
theorem lt_enc {x y : List Nat} (hx : Small x) (hy : Small y) : ltN (mkN x) (mkN y) = Nat.blt (enc x) (enc y) := by
  show (bif Nat.beq x.length y.length then lexN x y else Nat.blt x.length y.length) = _
  by_cases h : x.length = y.length
  · rw [h, show Nat.beq y.length y.length = true from Nat.beq_refl _, cond_true, lex_enc hx hy h]
  · rw [beqN h, cond_false, Bool.eq_iff_iff]
    simp only [Nat.blt_eq]
    constructor
    · exact enc_len hx hy
    · intro q
      rcases Nat.lt_or_gt_of_ne h with z | z
      · exact z
      · have := enc_len hy hx z
        lia
theorem eq_enc {x y : List Nat} (hx : Small x) (hy : Small y) : eqN x y = Nat.beq (enc x) (enc y) := by
  rw [eqN_eq]
  by_cases h : x = y
  · rw [h, decide_eq_true rfl]; exact (Nat.beq_refl _).symm
  · rw [decide_eq_false h, beqN]
    intro q
    by_cases hl : x.length = y.length
    · have h1 := lex_enc hx hy hl
      have h2 := lex_enc hy hx hl.symm
      rw [q, show Nat.blt (enc y) (enc y) = false by rw [Bool.eq_false_iff]; simp, lexN_eq] at h1
      rw [q, show Nat.blt (enc y) (enc y) = false by rw [Bool.eq_false_iff]; simp, lexN_eq] at h2
      exact h (List.le_antisymm (List.not_lt.mp (of_decide_eq_false h2)) (List.not_lt.mp (of_decide_eq_false h1)))
    · rcases Nat.lt_or_gt_of_ne hl with z | z
      · have := enc_len hx hy z; lia
      · have := enc_len hy hx z; lia

/-! the words (which writers, in their order) in place of the texts -/
/-- a word's letters, laid bare -/
noncomputable def bareN {β : Type} (a : Nat) (g : Nat → β) : β := match a with
  | 0 => g 0
  | 1 => g 1
  | 2 => g 2
  | 3 => g 3
  | n + 4 => g (n + 4)
noncomputable def bareL {β : Type} : List Nat → (List Nat → β) → β
  | [], g => g []
  | a :: w, g => bareN a fun b => bareL w fun v => g (b :: v)
theorem bareN_eq {β : Type} (a : Nat) (g : Nat → β) : bareN a g = g a := by
  unfold bareN; split <;> rfl
theorem bareL_eq {β : Type} : ∀ (w : List Nat) (g : List Nat → β), bareL w g = g w
  | [], _ => rfl
  | a :: w, g => by
    show bareN a (fun b => bareL w fun v => g (b :: v)) = _
    rw [bareN_eq, bareL_eq w]
noncomputable def pieceN (p : Nat) (w : List Nat) : Nat := enc (spellN p w)
noncomputable def wideN (p : Nat) (w : List Nat) : Nat := Nat.pow 128 (spellN p w).length
noncomputable def joinC (w : List Nat) : Nat → List Nat → Nat
  | a, [] => a
  | a, p :: ps => joinC w (Nat.add (Nat.mul a (wideN p w)) (pieceN p w)) ps
noncomputable def codeW (ps w : List Nat) : Nat := bareL w fun v => joinC v 0 ps
theorem joinC_eq (w : List Nat) : ∀ (ps x : List Nat), joinC w (enc x) ps = enc (x ++ textN ps w)
  | [], x => by
    show enc x = enc (x ++ [])
    rw [List.append_nil]
  | p :: ps, x => by
    have e : Nat.add (Nat.mul (enc x) (wideN p w)) (pieceN p w) = enc (x ++ spellN p w) := (enc_append x (spellN p w)).symm
    show joinC w _ ps = enc (x ++ (spellN p w ++ textN ps w))
    rw [e, joinC_eq w ps, List.append_assoc]
theorem codeW_eq (ps w : List Nat) : codeW ps w = enc (textN ps w) := by
  unfold codeW
  rw [bareL_eq]
  exact joinC_eq w ps []
/-! one more writer: one more letter -/
noncomputable def Plain (x : List Nat) : Prop := ∀ c ∈ x, 13 < c ∧ c < 128 ∧ c ≠ 34 ∧ c ≠ 38 ∧ c ≠ 60 ∧ c ≠ 62
theorem Plain.small {x : List Nat} (h : Plain x) : Small x := fun c hc => ⟨Nat.lt_of_lt_of_le (by decide : 0 < 14) (h c hc).1, (h c hc).2.1⟩
theorem esc_plain (k : Nat) : ∀ {x : List Nat}, Plain x → escL k x = x
  | [], _ => rfl
  | c :: x, h => by
    have e : escF k c = [c] := by
      obtain ⟨h1, _, h2, h3, h4, h5⟩ := h c (.head _)
      have h6 : c ≠ 13 := Nat.ne_of_gt h1
      have h7 : c ≠ 10 := Nat.ne_of_gt (Nat.lt_trans (by decide) h1)
      have h8 : c ≠ 9 := Nat.ne_of_gt (Nat.lt_trans (by decide) h1)
      simp only [escF, h2, h3, h4, h5, h6, h7, h8, false_and, if_false]
    show escF k c ++ escL k x = _
    rw [e, esc_plain k fun d hd => h d (.tail _ hd)]; rfl
theorem tbl_six : ∀ p < 6, ∀ z ∈ tblN p, ∀ c ∈ z, 13 < c ∧ c < 128 ∧ c ≠ 34 ∧ c ≠ 38 ∧ c ≠ 60 ∧ c ≠ 62 := by decide +kernel
theorem tbl_plain (p k : Nat) : Plain ((tblN p).getD k []) := by
  have h : ∀ z ∈ tblN p, Plain z := fun z hz => by
    rcases Nat.lt_or_ge p 6 with q | q
    · exact tbl_six p q z hz
    · obtain ⟨n, rfl⟩ := Nat.exists_eq_add_of_le' q
      exact tbl_six 5 (by decide) z hz
  rw [List.getD_eq_getElem?_getD]
  cases e : (tblN p)[k]? with
  | none => exact fun _ hc => nomatch hc
  | some z => exact h z (List.mem_of_getElem? e)
theorem amp_one : ∀ c ∈ [97, 109, 112, 59], 13 < c ∧ c < 128 ∧ c ≠ 34 ∧ c ≠ 38 ∧ c ≠ 60 ∧ c ≠ 62 := by decide +kernel
theorem amp_plain : ∀ (n : Nat) {z : List Nat}, Plain z → Plain (ampN n z)
  | 0, _, h => h
  | n + 1, z, h => fun c hc => by
    rcases List.mem_append.mp (show c ∈ [97, 109, 112, 59] ++ ampN n z from hc) with q | q
    · exact amp_one c q
    · exact amp_plain n h c q
theorem char_small : ∀ p < 6, 0 < charN p ∧ charN p < 128 := by decide +kernel
theorem spell_smallN (p : Nat) : ∀ w, Small (spellN p w)
  | [] => fun c hc => by
    rw [List.mem_singleton.mp hc]
    rcases Nat.lt_or_ge p 6 with q | q
    · exact char_small p q
    · obtain ⟨n, rfl⟩ := Nat.exists_eq_add_of_le' q
      exact char_small 5 (by decide)
  | k :: r => by
    have ht := tbl_plain p k
    show Small (match (tblN p).getD k [] with
      | [] => spellN p r
      | c :: z => 38 :: ampN r.length (c :: z))
    cases e : (tblN p).getD k [] with
    | nil => exact spell_smallN p r
    | cons c z =>
      rw [e] at ht
      intro d hd
      rcases List.mem_cons.mp hd with rfl | hd
      · exact ⟨by decide, by decide⟩
      · exact (amp_plain _ ht).small d hd
theorem text_small (ps w : List Nat) : Small (textN ps w) := fun c hc => by
  obtain ⟨p, _, h⟩ := List.mem_flatMap.mp hc
  exact spell_smallN p w c h
theorem esc_six : ∀ k < 4, ∀ p < 6, escL k [charN p] = spellN p [k] := by decide +kernel
theorem esc_first {k : Nat} (hk : k < 4) (p : Nat) : escL k [charN p] = spellN p [k] := by
  rcases Nat.lt_or_ge p 6 with q | q
  · exact esc_six k hk p q
  · obtain ⟨n, rfl⟩ := Nat.exists_eq_add_of_le' q
    exact esc_six k hk 5 (by decide)
theorem esc_spell {k : Nat} (hk : k < 4) (p : Nat) : ∀ w, escL k (spellN p w) = spellN p (w ++ [k])
  | [] => esc_first hk p
  | j :: r => by
    show escL k (spellN p (j :: r)) = spellN p (j :: (r ++ [k]))
    have ht := tbl_plain p j
    unfold spellN
    cases e : (tblN p).getD j [] with
    | nil => exact esc_spell hk p r
    | cons c z =>
      rw [e] at ht
      show escL k (38 :: ampN r.length (c :: z)) = 38 :: ampN (r ++ [k]).length (c :: z)
      rw [List.length_append]
      show escF k 38 ++ escL k _ = _
      rw [esc_plain k (amp_plain _ ht)]; rfl
theorem esc_text {k : Nat} (hk : k < 4) (w : List Nat) : ∀ ps, escL k (textN ps w) = textN ps (w ++ [k])
  | [] => rfl
  | p :: ps => by
    show List.flatMap (escF k) (spellN p w ++ textN ps w) = spellN p (w ++ [k]) ++ textN ps (w ++ [k])
    rw [List.flatMap_append]
    show escL k _ ++ escL k _ = _
    rw [esc_spell hk, esc_text hk w ps]
theorem text_none : ∀ ps : List Nat, textN ps [] = ps.map charN
  | [] => rfl
  | p :: ps => by
    show charN p :: textN ps [] = _
    rw [text_none ps]; rfl

/-! the run by words -/
noncomputable abbrev OW := Option (List Nat)
noncomputable def txtO (ps : List Nat) (o : OW) : List Nat := match o with
  | none => []
  | some w => textN ps w
noncomputable def codeO (ps : List Nat) (o : OW) : Nat := match o with
  | none => 0
  | some w => codeW ps w
noncomputable def moreO (k : Nat) (o : OW) : OW := match o with
  | none => none
  | some w => some (w ++ [k])
noncomputable def ltO (ps : List Nat) (a b : OW) : Bool := Nat.blt (codeO ps a) (codeO ps b)
noncomputable def φO (ps : List Nat) (o : OW) : N2 := mkN (txtO ps o)
theorem txtO_small (ps : List Nat) : ∀ o, Small (txtO ps o)
  | none => fun _ hc => nomatch hc
  | some w => text_small ps w
theorem codeO_eq (ps : List Nat) : ∀ o, codeO ps o = enc (txtO ps o)
  | none => rfl
  | some w => codeW_eq ps w
theorem ltO_eq (ps : List Nat) (a b : OW) : ltN (φO ps a) (φO ps b) = ltO ps a b := by
  unfold ltO φO
  rw [lt_enc (txtO_small ps a) (txtO_small ps b), codeO_eq, codeO_eq]
theorem eqO_eq (ps : List Nat) (a b : OW) : eqN (txtO ps a) (txtO ps b) = Nat.beq (codeO ps a) (codeO ps b) := by
  rw [eq_enc (txtO_small ps a) (txtO_small ps b), codeO_eq, codeO_eq]
theorem more_txt {k : Nat} (hk : k < 4) (ps : List Nat) : ∀ o, escL k (txtO ps o) = txtO ps (moreO k o)
  | none => rfl
  | some w => esc_text hk w ps
noncomputable def pushO (ps : List Nat) (st : List OW × List OW) (x : OW) : List OW × List OW := bif st.2.any (fun y => Nat.beq (codeO ps x) (codeO ps y)) then st else (hpush (ltO ps) none st.1 x, st.2 ++ [x])
noncomputable def runO (ps ks : List Nat) : Nat → List OW → List OW → List OW → List OW
  | 0, _, _, came => came
  | n + 1, hs, seen, came => bif hs.isEmpty then came else
    runO ps ks n ((ks.map fun k => moreO k (hpop (ltO ps) none hs).1).foldl (pushO ps) ((hpop (ltO ps) none hs).2, seen)).1 ((ks.map fun k => moreO k (hpop (ltO ps) none hs).1).foldl (pushO ps) ((hpop (ltO ps) none hs).2, seen)).2 (came ++ [(hpop (ltO ps) none hs).1])
theorem any_txt (ps : List Nat) (x : OW) : ∀ l : List OW, (l.map (txtO ps)).any (eqN (txtO ps x)) = l.any fun y => Nat.beq (codeO ps x) (codeO ps y)
  | [] => rfl
  | y :: l => by rw [List.map_cons, List.any_cons, List.any_cons, any_txt ps x l, eqO_eq]
theorem push_word (ps : List Nat) (st : List OW × List OW) (x : OW) : pushN (st.1.map (φO ps), st.2.map (txtO ps)) (txtO ps x) = ((pushO ps st x).1.map (φO ps), (pushO ps st x).2.map (txtO ps)) := by
  unfold pushN pushO
  rw [any_txt]
  cases st.2.any fun y => Nat.beq (codeO ps x) (codeO ps y) with
  | true => rfl
  | false =>
    rw [cond_false, cond_false]
    dsimp only
    rw [hpush_map (φO ps) (lt' := ltN) (d' := dN) rfl (ltO_eq ps), List.map_append]
    rfl
theorem fold_word (ps : List Nat) : ∀ (as : List OW) (st : List OW × List OW), (as.map (txtO ps)).foldl pushN (st.1.map (φO ps), st.2.map (txtO ps)) = (((as.foldl (pushO ps) st).1).map (φO ps), ((as.foldl (pushO ps) st).2).map (txtO ps))
  | [], st => rfl
  | a :: as, st => by
    rw [List.map_cons, List.foldl_cons, List.foldl_cons, push_word, fold_word ps as (pushO ps st a)]
theorem run_word (ps : List Nat) {ks : List Nat} (hks : ∀ k ∈ ks, k < 4) : ∀ (n : Nat) (hs seen came : List OW), runN ks n (hs.map (φO ps)) (seen.map (txtO ps)) (came.map (txtO ps)) = (runO ps ks n hs seen came).map (txtO ps)
  | 0, hs, seen, came => rfl
  | n + 1, [], seen, came => rfl
  | n + 1, p :: hs, seen, came => by
    show runN ks n _ _ _ = List.map (txtO ps) (runO ps ks n _ _ _)
    rw [hpop_map (φO ps) (lt := ltO ps) (lt' := ltN) (d := none) (d' := dN) rfl (ltO_eq ps)]
    dsimp only
    rw [← run_word ps hks n]
    have e1 : (φO ps (hpop (ltO ps) none (p :: hs)).1).2 = txtO ps (hpop (ltO ps) none (p :: hs)).1 := rfl
    have e2 : (ks.map fun k => escL k (txtO ps (hpop (ltO ps) none (p :: hs)).1)) = (ks.map fun k => moreO k (hpop (ltO ps) none (p :: hs)).1).map (txtO ps) := by
      rw [List.map_map]
      exact List.map_congr_left fun k hk => more_txt (hks k hk) ps _
    rw [e1, e2, fold_word ps (List.map (fun k => moreO k (hpop (ltO ps) none (p :: hs)).1) ks) ((hpop (ltO ps) none (p :: hs)).2, seen), List.map_append]
    rfl
/-! the check by numbers -/
noncomputable def upC : List Nat → Bool
  | [] => true
  | x :: l => l.all (fun y => Nat.blt x y) && upC l
noncomputable def chkC (ws texts : List Nat) : Bool := Nat.ble ws.length 4 && upC ws && ws.all (fun x => texts.any (Nat.beq x)) && texts.all fun t => ws.any (Nat.beq t) || (Nat.beq ws.length 4 && ws.all fun x => Nat.blt x t)
theorem up_eq {α : Type} {f : α → List Nat} {g : α → Nat} (hl : ∀ a b, ltN (mkN (f a)) (mkN (f b)) = Nat.blt (g a) (g b)) : ∀ ws : List α, sortedN (ws.map f) = upC (ws.map g)
  | [] => rfl
  | x :: ws => by
    rw [List.map_cons, List.map_cons]
    unfold sortedN upC
    rw [up_eq hl ws, List.all_map, List.all_map]
    congr 1
    exact congrArg (fun q => ws.all q) (funext fun b => hl x b)
theorem chk_eq {α : Type} {f : α → List Nat} {g : α → Nat} (hl : ∀ a b, ltN (mkN (f a)) (mkN (f b)) = Nat.blt (g a) (g b)) (he : ∀ a b, eqN (f a) (f b) = Nat.beq (g a) (g b)) (ws ts : List α) : chkW (ws.map f) (ts.map f) = chkC (ws.map g) (ts.map g) := by
  unfold chkW chkC
  rw [up_eq hl, List.length_map, List.length_map]
  simp only [List.all_map, List.any_map, Function.comp_def, hl, he]
noncomputable def maxC : List Nat → Nat
  | [] => 0
  | x :: l => bif Nat.ble x (maxC l) then maxC l else x
theorem le_maxC : ∀ {ws : List Nat}, ∀ x ∈ ws, x ≤ maxC ws
  | a :: l, x, hx => by
    unfold maxC
    rcases List.mem_cons.mp hx with rfl | hx
    · cases h : Nat.ble x (maxC l) with
      | true => exact Nat.le_of_ble_eq_true h
      | false => exact Nat.le_refl _
    · have := le_maxC x hx
      cases h : Nat.ble a (maxC l) with
      | true => exact this
      | false =>
        have : ¬ a ≤ maxC l := fun q => Bool.noConfusion (h.symm.trans (Nat.ble_eq_true_of_le q))
        show x ≤ a
        lia
noncomputable def chkL (ws texts : List Nat) : Bool := Nat.ble ws.length 4 && upC ws && ws.all (fun x => texts.any (Nat.beq x)) && texts.all fun t => bif Nat.blt (maxC ws) t then Nat.beq ws.length 4 else ws.any (Nat.beq t)
theorem chk_max {ws texts : List Nat} (h : chkL ws texts = true) : chkC ws texts = true := by
  unfold chkL at h
  unfold chkC
  obtain ⟨h1, h2⟩ := Bool.and_eq_true_iff.mp h
  refine Bool.and_eq_true_iff.mpr ⟨h1, List.all_eq_true.mpr fun t ht => ?_⟩
  have q := List.all_eq_true.mp h2 t ht
  cases e : Nat.blt (maxC ws) t with
  | false =>
    rw [e, cond_false] at q
    exact Bool.or_eq_true_iff.mpr (.inl q)
  | true =>
    rw [e, cond_true] at q
    refine Bool.or_eq_true_iff.mpr (.inr (Bool.and_eq_true_iff.mpr ⟨q, List.all_eq_true.mpr fun x hx => ?_⟩))
    have := le_maxC x hx
    simp only [Nat.blt_eq] at e ⊢
    lia
noncomputable def chkO (r : Nat) (ps : List Nat) : Bool := chkL ((runO ps (might r 4) 4 [some []] [some []] []).map (codeO ps)) ((reps r).map (codeW ps))
theorem might_four (r : Nat) : ∀ k ∈ might r 4, k < 4 := fun _ hk => List.mem_range.mp (List.mem_filter.mp hk).1
theorem chk_of {r : Nat} {ps : List Nat} (h : chkO r ps = true) : chk r ps = true := by
  unfold chk
  have e0 : [mkN (ps.map charN)] = [some []].map (φO ps) := by rw [← text_none]; rfl
  have e1 : [ps.map charN] = [some []].map (txtO ps) := by rw [← text_none]; rfl
  have e2 := run_word ps (might_four r) 4 [some []] [some []] []
  have e3 : (reps r).map (textN ps) = ((reps r).map some).map (txtO ps) := by rw [List.map_map]; rfl
  rw [e0, e1]
  refine (congr (congrArg chkW e2) e3).trans ?_
  rw [chk_eq (g := codeO ps) (ltO_eq ps) (eqO_eq ps), List.map_map]
  exact chk_max h

theorem chk_r0 : allPs.all (chkO 0) = true := by decide +kernel
theorem chk_r1 : allPs.all (chkO 1) = true := by decide +kernel
theorem chk_r2 : allPs.all (chkO 2) = true := by decide +kernel
theorem chk_r3 : allPs.all (chkO 3) = true := by decide +kernel
theorem chk_r4 : allPs.all (chkO 4) = true := by decide +kernel
theorem chk_r5 : allPs.all (chkO 5) = true := by decide +kernel
theorem chk_r6 : allPs.all (chkO 6) = true := by decide +kernel
theorem chk_r7 : allPs.all (chkO 7) = true := by decide +kernel
theorem chk_r8 : allPs.all (chkO 8) = true := by decide +kernel
theorem chk_r9 : allPs.all (chkO 9) = true := by decide +kernel
theorem chk_r10 : allPs.all (chkO 10) = true := by decide +kernel
theorem chk_r11 : allPs.all (chkO 11) = true := by decide +kernel
theorem chk_r12 : allPs.all (chkO 12) = true := by decide +kernel
theorem chk_r13 : allPs.all (chkO 13) = true := by decide +kernel
theorem chk_r14 : allPs.all (chkO 14) = true := by decide +kernel
theorem chk_r15 : allPs.all (chkO 15) = true := by decide +kernel
theorem chk_all : ∀ r < 16, allPs.all (chkO r) = true := by
  intro r hr
  match r, hr with
  | 0, _ => exact chk_r0
  | 1, _ => exact chk_r1
  | 2, _ => exact chk_r2
  | 3, _ => exact chk_r3
  | 4, _ => exact chk_r4
  | 5, _ => exact chk_r5
  | 6, _ => exact chk_r6
  | 7, _ => exact chk_r7
  | 8, _ => exact chk_r8
  | 9, _ => exact chk_r9
  | 10, _ => exact chk_r10
  | 11, _ => exact chk_r11
  | 12, _ => exact chk_r12
  | 13, _ => exact chk_r13
  | 14, _ => exact chk_r14
  | 15, _ => exact chk_r15
  | n + 16, h => exact absurd h (by lia)
theorem pure2 (ns : List Int) : ∀ r < 16, ∀ qs : List (Int × Str), qs.Pairwise (fun p q => ltP p q = true) → (∀ p, p ∈ qs ↔ p ∈ duePairs (placesOf ns) r) → runL (lstE r) (joinE ((placesOf ns).map charS)) = (qs.take 4).map (·.2) :=
  fun r hr _ hs hm => chk_run hr (places_six ns) (chk_of (List.all_eq_true.mp (chk_all r hr) _ (places_in ns))) hs hm
end Mine

theorem PySem.Challenge.cw_oh0034_01_holds : PySem.Challenge.rw_oh0034_01.Holds := by
  refine Mine.hd ?_
  intro w s₀ s₁ mg mb G Y fa o pm cd doc dV kV ho hd hcd hD hmg hg args vals as hpre hlay hrd hwl hlo
  have KX : (Mine.KL w.params).In _ := Mine.kl_of w.params ▸ kIn_of Y
  refine Ground.open G ?_
  intro T B D TE TW
  clear D B TE TW
  wrow_args hpre hlay hrd hwl hlo
  all_goals (
    first | refine callC_kw (enter_call ?_) | refine enter_call ?_)
  all_goals (w_top on)
  clear hd hcd hD G Y
  rename_i ns h1 h2 h3 h4 h5 h6 h7 l svs h8 hl ra w1 r0 hI hr h63 htr
  have e1 : mg (Str.ofString "law") = some (.ref 155) := mg_of KX T.g (by rfl)
  replace hmg : mg (Str.ofString "law") = some (.ref fa) := hmg
  rw [hmg] at e1
  obtain rfl : fa = 155 := by cases e1; rfl
  clear hmg e1
  refine codeAny_mono ?_ (fun _ _ g => GoodW.toG g)
  refine Mine.law_spec (mg := mg) (mb := mb) ⟨KX, topRead_of T⟩ ?_ ?_ rfl hl hI (by lia) (Mine.pure2 ns) (Mine.pure3 ns) fun h' d tk hk => ?_
  · decide +kernel
  · decide +kernel
  · exact ⟨.inl ⟨.bool true, .bool true, [], rfl, fun _ => rfl, .bool true, by wrow_post, unshared_nil⟩, fun b o e => hk b o (by simp) e, rfl, hg⟩
