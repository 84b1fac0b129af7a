import PyProof.Rows.All
import Wide.All
import OpenK.AllK
import Wide.FinOn
import PySem.Challenge.RW_oc0141_01
set_option Elab.async false

-- H2
section
open PySem PySem.W PyProof.Rows
set_option Elab.async false
set_option maxRecDepth 100000
set_option maxHeartbeats 8000000
namespace Mine
noncomputable def tO (vs : List Value) : Obj := { cls := .type "tuple", data := .seq vs.toArray 0 }
noncomputable def cO (vs : List Value) : Obj := { cls := .type "code", data := .fields vs.toArray }
noncomputable def dO (es : List DictEntry) : Obj := { cls := .type "dict", data := .dict es.toArray 46 }
noncomputable def eO (P : Params) (x : String) (t : Tok) (v : Value) : DictEntry := { hash := PyData.keyHash P (Str.ofString x), key := .str (Str.ofString x) t, val := v }
/-- the text's statements -/
noncomputable abbrev body : List Stmt := PySem.Challenge.pw_oc0141_01.main.body
/-- the function object that the text's i-th statement, a def, makes -/
noncomputable def fO (i : Nat) (pm cd : Value) : Obj := match body[i]? with
  | some (.FunctionDef name args b _ _ _ scope _ _ _) => { cls := .type "function", data := .func { name := name, qualname := name, params := args, body := .stmts b, scope := scope, globals := 3, closure := [], defaults := .none, kwdefaults := .none, doc := .none, pyModule := pm, annotations := none, code := cd, closureTuple := .none, builtins := 0 } }
  | _ => default
/-- what stands at the top: the part of the heap that the walks read -/
noncomputable def hd.heap_39 (P : Params) : Frag :=
  [(3, dO [eO P "__name__" 165 (.str (.ofString "law_oc0141_01") 361),
      eO P "__doc__" 166 (.none),
      eO P "__package__" 167 (.none),
      eO P "__loader__" 168 (.builtin "__main__.__loader__#opaque"),
      eO P "__spec__" 169 (.none),
      eO P "__annotations__" 170 (.ref 6),
      eO P "__builtins__" 171 (.ref 4),
      eO P "__file__" 173 (.str (.ofString "/claim/cut.py") 172),
      eO P "__cached__" 174 (.none),
      eO P "_MAX_STRING_SIZE" 190 (.int 40 189),
      eO P "_MOVE_COST" 192 (.int 2 191),
      eO P "_CASE_COST" 194 (.int 1 193),
      eO P "_substitution_cost" 202 (.ref 21),
      eO P "_levenshtein_distance" 222 (.ref 28),
      eO P "heappush" 232 (.ref 35),
      eO P "heappop" 241 (.ref 42),
      eO P "heapreplace" 250 (.ref 49),
      eO P "_siftdown" 262 (.ref 56),
      eO P "_siftup" 275 (.ref 63),
      eO P "S_IFMT" 284 (.ref 70),
      eO P "S_IFDIR" 286 (.int 16384 285),
      eO P "S_IFCHR" 288 (.int 8192 287),
      eO P "S_IFBLK" 290 (.int 24576 289),
      eO P "S_IFREG" 292 (.int 32768 291),
      eO P "S_IFIFO" 294 (.int 4096 293),
      eO P "S_IFLNK" 296 (.int 40960 295),
      eO P "S_IFSOCK" 298 (.int 49152 297),
      eO P "S_ISUID" 300 (.int 2048 299),
      eO P "S_ISGID" 302 (.int 1024 301),
      eO P "S_ISVTX" 304 (.int 512 303),
      eO P "S_IRUSR" 306 (.int 256 305),
      eO P "S_IWUSR" 308 (.int 128 307),
      eO P "S_IXUSR" 310 (.int 64 309),
      eO P "S_IRGRP" 312 (.int 32 311),
      eO P "S_IWGRP" 314 (.int 16 313),
      eO P "S_IXGRP" 316 (.int 8 315),
      eO P "S_IROTH" 318 (.int 4 317),
      eO P "S_IWOTH" 320 (.int 2 319),
      eO P "S_IXOTH" 322 (.int 1 321),
      eO P "_filemode_table" 348 (.ref 103),
      eO P "filemode" 360 (.ref 110),
      eO P "_law_typed" 373 (.ref 117),
      eO P "_law_row" 384 (.ref 124),
      eO P "_law_cost" 390 (.ref 129),
      eO P "_law_nearest" 404 (.ref 136),
      eO P "law" 410 (.ref 141)]),
   (20, cO [.str (.ofString "_substitution_cost") 195, .str (.ofString "_substitution_cost") 196, .str (.ofString "/claim/cut.py") 197, .int 5 0, .int 2 0, .int 0 0, .int 0 0, .int 3 0, .ref 15, .bool true, .int 181 0, .ref 16, .none, .ref 17, .ref 18, .ref 19, .int 200 0, .int 5 0, .str (.ofString "/claim/cut.py") 201]),
   (21, fO 4 (.str (.ofString "cpy313.traceback") 187) (.ref 20)),
   (27, cO [.str (.ofString "_levenshtein_distance") 203, .str (.ofString "_levenshtein_distance") 204, .str (.ofString "/claim/cut.py") 205, .int 11 0, .int 3 0, .int 0 0, .int 0 0, .int 3 0, .ref 22, .bool true, .int 181 0, .ref 23, .none, .ref 24, .ref 25, .ref 26, .int 220 0, .int 11 0, .str (.ofString "/claim/cut.py") 221]),
   (28, fO 5 (.str (.ofString "cpy313.traceback") 187) (.ref 27)),
   (34, cO [.str (.ofString "heappush") 225, .str (.ofString "heappush") 226, .str (.ofString "/claim/cut.py") 227, .int 50 0, .int 2 0, .int 0 0, .int 0 0, .int 3 0, .ref 29, .bool true, .int 181 0, .ref 30, .none, .ref 31, .ref 32, .ref 33, .int 230 0, .int 50 0, .str (.ofString "/claim/cut.py") 231]),
   (35, fO 7 (.str (.ofString "cpy313.heapq") 223) (.ref 34)),
   (41, cO [.str (.ofString "heappop") 233, .str (.ofString "heappop") 234, .str (.ofString "/claim/cut.py") 235, .int 53 0, .int 1 0, .int 0 0, .int 0 0, .int 3 0, .ref 36, .bool true, .int 181 0, .ref 37, .none, .ref 38, .ref 39, .ref 40, .int 239 0, .int 53 0, .str (.ofString "/claim/cut.py") 240]),
   (42, fO 8 (.str (.ofString "cpy313.heapq") 223) (.ref 41)),
   (48, cO [.str (.ofString "heapreplace") 242, .str (.ofString "heapreplace") 243, .str (.ofString "/claim/cut.py") 244, .int 61 0, .int 2 0, .int 0 0, .int 0 0, .int 3 0, .ref 43, .bool true, .int 181 0, .ref 44, .none, .ref 45, .ref 46, .ref 47, .int 248 0, .int 61 0, .str (.ofString "/claim/cut.py") 249]),
   (49, fO 9 (.str (.ofString "cpy313.heapq") 223) (.ref 48)),
   (55, cO [.str (.ofString "_siftdown") 251, .str (.ofString "_siftdown") 252, .str (.ofString "/claim/cut.py") 253, .int 66 0, .int 3 0, .int 0 0, .int 0 0, .int 3 0, .ref 50, .bool true, .int 181 0, .ref 51, .none, .ref 52, .ref 53, .ref 54, .int 260 0, .int 66 0, .str (.ofString "/claim/cut.py") 261]),
   (56, fO 10 (.str (.ofString "cpy313.heapq") 223) (.ref 55)),
   (62, cO [.str (.ofString "_siftup") 263, .str (.ofString "_siftup") 264, .str (.ofString "/claim/cut.py") 265, .int 77 0, .int 2 0, .int 0 0, .int 0 0, .int 3 0, .ref 57, .bool true, .int 181 0, .ref 58, .none, .ref 59, .ref 60, .ref 61, .int 273 0, .int 77 0, .str (.ofString "/claim/cut.py") 274]),
   (63, fO 11 (.str (.ofString "cpy313.heapq") 223) (.ref 62)),
   (69, cO [.str (.ofString "S_IFMT") 278, .str (.ofString "S_IFMT") 279, .str (.ofString "/claim/cut.py") 280, .int 92 0, .int 1 0, .int 0 0, .int 0 0, .int 3 0, .ref 64, .bool true, .int 181 0, .ref 65, .none, .ref 66, .ref 67, .ref 68, .int 282 0, .int 92 0, .str (.ofString "/claim/cut.py") 283]),
   (70, fO 13 (.str (.ofString "cpy313.stat") 276) (.ref 69)),
   (71, tO [.int 40960 295, .str (.ofString "l") 323]),
   (72, tO [.int 49152 297, .str (.ofString "s") 324]),
   (73, tO [.int 32768 291, .str (.ofString "-") 325]),
   (74, tO [.int 24576 289, .str (.ofString "b") 326]),
   (75, tO [.int 16384 285, .str (.ofString "d") 327]),
   (76, tO [.int 8192 287, .str (.ofString "c") 328]),
   (77, tO [.int 4096 293, .str (.ofString "p") 329]),
   (78, tO [.ref 71, .ref 72, .ref 73, .ref 74, .ref 75, .ref 76, .ref 77]),
   (79, tO [.int 256 305, .str (.ofString "r") 330]),
   (80, tO [.ref 79]),
   (81, tO [.int 128 307, .str (.ofString "w") 331]),
   (82, tO [.ref 81]),
   (83, tO [.int 2112 332, .str (.ofString "s") 333]),
   (84, tO [.int 2048 299, .str (.ofString "S") 334]),
   (85, tO [.int 64 309, .str (.ofString "x") 335]),
   (86, tO [.ref 83, .ref 84, .ref 85]),
   (87, tO [.int 32 311, .str (.ofString "r") 336]),
   (88, tO [.ref 87]),
   (89, tO [.int 16 313, .str (.ofString "w") 337]),
   (90, tO [.ref 89]),
   (91, tO [.int 1032 338, .str (.ofString "s") 339]),
   (92, tO [.int 1024 301, .str (.ofString "S") 340]),
   (93, tO [.int 8 315, .str (.ofString "x") 341]),
   (94, tO [.ref 91, .ref 92, .ref 93]),
   (95, tO [.int 4 317, .str (.ofString "r") 342]),
   (96, tO [.ref 95]),
   (97, tO [.int 2 319, .str (.ofString "w") 343]),
   (98, tO [.ref 97]),
   (99, tO [.int 513 344, .str (.ofString "t") 345]),
   (100, tO [.int 512 303, .str (.ofString "T") 346]),
   (101, tO [.int 1 321, .str (.ofString "x") 347]),
   (102, tO [.ref 99, .ref 100, .ref 101]),
   (103, tO [.ref 78, .ref 80, .ref 82, .ref 86, .ref 88, .ref 90, .ref 94, .ref 96, .ref 98, .ref 102]),
   (109, cO [.str (.ofString "filemode") 349, .str (.ofString "filemode") 350, .str (.ofString "/claim/cut.py") 351, .int 114 0, .int 1 0, .int 0 0, .int 0 0, .int 3 0, .ref 104, .bool true, .int 181 0, .ref 105, .none, .ref 106, .ref 107, .ref 108, .int 358 0, .int 114 0, .str (.ofString "/claim/cut.py") 359]),
   (110, fO 34 (.str (.ofString "cpy313.stat") 276) (.ref 109)),
   (116, cO [.str (.ofString "_law_typed") 363, .str (.ofString "_law_typed") 364, .str (.ofString "/claim/cut.py") 365, .int 132 0, .int 2 0, .int 0 0, .int 0 0, .int 3 0, .ref 111, .bool true, .int 181 0, .ref 112, .none, .ref 113, .ref 114, .ref 115, .int 371 0, .int 132 0, .str (.ofString "/claim/cut.py") 372]),
   (117, fO 36 (.str (.ofString "law_oc0141_01") 361) (.ref 116)),
   (123, cO [.str (.ofString "_law_row") 374, .str (.ofString "_law_row") 375, .str (.ofString "/claim/cut.py") 376, .int 142 0, .int 1 0, .int 0 0, .int 0 0, .int 3 0, .ref 118, .bool true, .int 181 0, .ref 119, .none, .ref 120, .ref 121, .ref 122, .int 382 0, .int 142 0, .str (.ofString "/claim/cut.py") 383]),
   (124, fO 37 (.str (.ofString "law_oc0141_01") 361) (.ref 123)),
   (128, cO [.str (.ofString "_law_cost") 385, .str (.ofString "_law_cost") 386, .str (.ofString "/claim/cut.py") 387, .int 149 0, .int 2 0, .int 0 0, .int 0 0, .int 3 0, .ref 125, .bool true, .int 181 0, .ref 126, .none, .none, .none, .ref 127, .int 388 0, .int 149 0, .str (.ofString "/claim/cut.py") 389]),
   (129, fO 38 (.str (.ofString "law_oc0141_01") 361) (.ref 128)),
   (135, cO [.str (.ofString "_law_nearest") 391, .str (.ofString "_law_nearest") 392, .str (.ofString "/claim/cut.py") 393, .int 156 0, .int 2 0, .int 0 0, .int 0 0, .int 3 0, .ref 130, .bool true, .int 181 0, .ref 131, .none, .ref 132, .ref 133, .ref 134, .int 402 0, .int 156 0, .str (.ofString "/claim/cut.py") 403]),
   (136, fO 39 (.str (.ofString "law_oc0141_01") 361) (.ref 135)),
   (140, cO [.str (.ofString "law") 405, .str (.ofString "law") 406, .str (.ofString "/claim/cut.py") 407, .int 171 0, .int 1 0, .int 0 0, .int 0 0, .int 3 0, .ref 137, .bool true, .int 181 0, .ref 138, .none, .none, .none, .ref 139, .int 408 0, .int 171 0, .str (.ofString "/claim/cut.py") 409]),
   (141, fO 40 (.str (.ofString "law_oc0141_01") 361) (.ref 140))]
def hd.adrs : List Addr := [3, 20, 21, 27, 28, 34, 35, 41, 42, 48, 49, 55, 56, 62, 63, 69, 70, 71, 72, 73, 74, 75, 76, 77, 78, 79, 80, 81, 82, 83, 84, 85, 86, 87, 88, 89, 90, 91, 92, 93, 94, 95, 96, 97, 98, 99, 100, 101, 102, 103, 109, 110, 116, 117, 123, 124, 128, 129, 135, 136, 140, 141]
/-- the text without its stores of the module's name -/
noncomputable def hd.view_39 : Program := { PySem.Challenge.pw_oc0141_01 with main := { PySem.Challenge.pw_oc0141_01.main with body := (body.drop 1).take 5 ++ ((body.drop 7).take 5 ++ ((body.drop 13).take 22 ++ body.drop 36)) } }
noncomputable def hd.hook : Hook := kHook hd.heap_39 hd.adrs (fun _ => by kernel_rfl)
theorem hd.left : LeftO PySem.Challenge.rw_oc0141_01.row.toRowW.prog hd.view_39 [Str.ofString "_filemode_table"] (fun s => recOk (RowW.records PySem.Challenge.rw_oc0141_01.row.toRowW) s) hd.hook.obs hd.hook.val 1816 := fun w => by kernel_rfl
end Mine
end

-- C1
section
open PySem PySem.W PySem.Calls PyProof.Rows
set_option Elab.async false
set_option linter.unusedVariables false
namespace Mine

/-- what stands at the top: the text's own objects, the built-ins' table, no set limit -/
structure Gd (w : World) (h : Heap) : Prop where
  K : (hd.heap_39 w.params).In h
  B : ∃ mb, h.Ns builtinsNs mb ∧ ∀ x : Str, x ≠ "__name__" → mb x = bootBuiltins x
  lim : h.NoLimit

abbrev Le (h h' : Heap) : Prop := ∀ b o, h.get? b = some o → h'.get? b = some o

theorem Gd.mono {w : World} {h h' : Heap} (g : Gd w h) (k : Le h h') : Gd w h' :=
  ⟨g.K.keeps k, (let ⟨mb, h1, h2⟩ := g.B; ⟨mb, h1.keeps k, h2⟩), g.lim.keeps k⟩

/-- what a made object is -/
inductive D where
  | list (vs : List Value)
  | tup (vs : List Value)
  | cell (v : Option Value)
  | obj (o : Obj)

def D.Is : D → Obj → Prop
  | .list vs, o => ∃ n, o = listOf vs.toArray n
  | .tup vs, o => ∃ n, o = ({ cls := .type "tuple", data := .seq vs.toArray n } : Obj)
  | .cell v, o => o.data = .cell v
  | .obj p, o => o = p ∧ p.isFreed = false

theorem D.Is.free {d : D} {o : Obj} (h : d.Is o) : o.isFreed = false := by
  cases d with
  | list vs => obtain ⟨n, rfl⟩ := h; rfl
  | tup vs => obtain ⟨n, rfl⟩ := h; rfl
  | cell v => obtain ⟨c, d, dt, sl⟩ := o; cases h; rfl
  | obj p => obtain ⟨rfl, h⟩ := h; exact h

inductive Has {α β : Type} : List (α × β) → α → β → Prop where
  | here {x : α} {v : β} {r : List (α × β)} : Has ((x, v) :: r) x v
  | there {p : α × β} {x : α} {v : β} {r : List (α × β)} : Has r x v → Has (p :: r) x v

theorem Has.mem {α β : Type} {l : List (α × β)} {x : α} {v : β} (h : Has l x v) : (x, v) ∈ l := by
  induction h with
  | here => exact .head _
  | there _ ih => exact .tail _ ih

inductive Put {α β : Type} : List (α × β) → α → β → List (α × β) → Prop where
  | here {x : α} {v v' : β} {r : List (α × β)} : Put ((x, v) :: r) x v' ((x, v') :: r)
  | there {p : α × β} {x : α} {v : β} {r r' : List (α × β)} : Put r x v r' → Put (p :: r) x v (p :: r')

theorem Put.keys {α β : Type} {l l' : List (α × β)} {x : α} {v : β} (h : Put l x v l') : l'.map (·.1) = l.map (·.1) := by
  induction h with
  | here => rfl
  | there _ ih => simp [ih]
theorem Put.key {α β : Type} {l l' : List (α × β)} {x : α} {v : β} (h : Put l x v l') : x ∈ l.map (·.1) := by
  induction h with
  | here => simp
  | there _ ih => simp only [List.map_cons, List.mem_cons]; exact .inr ih
/-- behind a store: the new pair, or an old one under another key -/
theorem Put.of {α β : Type} {l l' : List (α × β)} {x : α} {v : β} (h : Put l x v l') (nd : (l.map (·.1)).Nodup) : ∀ p ∈ l', p = (x, v) ∨ (p ∈ l ∧ p.1 ≠ x) := by
  induction h with
  | here =>
    intro p hp
    rcases List.mem_cons.mp hp with rfl | hp
    · exact .inl rfl
    · refine .inr ⟨.tail _ hp, fun e => ?_⟩
      simp only [List.map_cons, List.nodup_cons] at nd
      exact nd.1 (e ▸ List.mem_map_of_mem hp)
  | there hr ih =>
    rename_i p' x' v' r r'
    intro p hp
    simp only [List.map_cons, List.nodup_cons] at nd
    rcases List.mem_cons.mp hp with rfl | hp
    · refine .inr ⟨.head _, fun e => nd.1 ?_⟩
      rw [e]; exact hr.key
    · rcases ih nd.2 p hp with h | ⟨h1, h2⟩
      · exact .inl h
      · exact .inr ⟨.tail _ h1, h2⟩

/-- a frame over a base: the base kept, the locals, the made objects -/
structure At (w : World) (L : Addr) (b : Shared) (fr : List (Str × Option Value)) (nw : List (Addr × D)) (s : Shared) : Prop where
  gd : Gd w b.heap
  ns : ∃ m, s.heap.Ns L m ∧ ∀ p ∈ fr, m p.1 = p.2
  keep : Le b.heap s.heap
  hL : b.heap.get? L = none
  ndf : (fr.map (·.1)).Nodup
  N : ∀ p ∈ nw, ∃ o, s.heap.get? p.1 = some o ∧ p.2.Is o ∧ p.1 ≠ L ∧ b.heap.get? p.1 = none
  ndn : (nw.map (·.1)).Nodup
  eqv : s = { b with heap := s.heap, toks := s.toks }

section
variable {w : World} {L : Addr} {b s : Shared} {fr fr' : List (Str × Option Value)} {nw nw' : List (Addr × D)}

theorem At.gds (h : At w L b fr nw s) : Gd w s.heap := h.gd.mono h.keep
theorem At.eqv' (h : At w L b fr nw s) (h' : Heap) (t : Nat) : { s with heap := h', toks := t } = { b with heap := h', toks := t } := by rw [h.eqv]
theorem At.toks (h : At w L b fr nw s) (t : Nat) : At w L b fr nw { s with toks := t } := ⟨h.gd, h.ns, h.keep, h.hL, h.ndf, h.N, h.ndn, h.eqv' _ _⟩
/-- all but the locals grows -/
theorem At.growL (h : At w L b fr nw s) {h' : Heap} {tk : Nat} {m : Str → Option Value} (hm : h'.Ns L m) (hf : ∀ p ∈ fr', m p.1 = p.2) (nf : (fr'.map (·.1)).Nodup) (k : ∀ a o, a ≠ L → s.heap.get? a = some o → h'.get? a = some o) : At w L b fr' nw { s with heap := h', toks := tk } :=
  ⟨h.gd, ⟨m, hm, hf⟩, fun a o e => k a o (fun q => by rw [q, h.hL] at e; cases e) (h.keep a o e), h.hL, nf, fun p hp => let ⟨o, h1, h2, h3, h4⟩ := h.N p hp; ⟨o, k _ _ h3 h1, h2, h3, h4⟩, h.ndn, h.eqv' _ _⟩
theorem At.grow (h : At w L b fr nw s) {h' : Heap} {tk : Nat} (k : Le s.heap h') : At w L b fr nw { s with heap := h', toks := tk } :=
  let ⟨_, hm, hf⟩ := h.ns; h.growL (hm.keeps k) hf h.ndf (fun a o _ e => k a o e)
theorem At.keeps (h : At w L b fr nw s) {s' : Shared} (k : Keeps s s') : At w L b fr nw s' := by
  obtain ⟨h', tk, rfl, k⟩ := k
  exact h.grow k
theorem At.toKeeps (h : At w L b fr nw s) : Keeps b s := ⟨s.heap, s.toks, h.eqv, h.keep⟩
/-- forget of the ledger and of the frame -/
theorem At.sub (h : At w L b fr nw s) (hf : ∀ p ∈ fr', p ∈ fr) (ndf : (fr'.map (·.1)).Nodup) (hn : ∀ p ∈ nw', p ∈ nw) (ndn : (nw'.map (·.1)).Nodup) : At w L b fr' nw' s :=
  ⟨h.gd, (let ⟨m, F, hm⟩ := h.ns; ⟨m, F, fun p hp => hm p (hf p hp)⟩), h.keep, h.hL, ndf, fun p hp => h.N p (hn p hp), ndn, h.eqv⟩
theorem At.get' (h : At w L b fr nw s) {a : Addr} {d : D} (hm : (a, d) ∈ nw) : ∃ o, s.heap.get? a = some o ∧ d.Is o := let ⟨o, h1, h2, _⟩ := h.N _ hm; ⟨o, h1, h2⟩
theorem At.get (h : At w L b fr nw s) {a : Addr} {d : D} (hm : Has nw a d) : ∃ o, s.heap.get? a = some o ∧ d.Is o := h.get' hm.mem
/-- a made object changed -/
theorem At.change (h : At w L b fr nw s) {a : Addr} {d : D} {h' : Heap} {o' : Obj} {tk : Nat} (hp : Put nw a d nw') (hs : Heap.SameBut a s.heap h') (ho : h'.get? a = some o') (hd : d.Is o') : At w L b fr nw' { s with heap := h', toks := tk } := by
  have hk : ∃ d0, (a, d0) ∈ nw := by
    obtain ⟨p, hq, rfl⟩ := List.mem_map.mp hp.key
    exact ⟨p.2, hq⟩
  obtain ⟨d0, hk⟩ := hk
  obtain ⟨o, e1, e2, e3, e4⟩ := h.N _ hk
  obtain ⟨m, F, hm⟩ := h.ns
  refine ⟨h.gd, ⟨m, F.sameBut hs (Ne.symm e3), hm⟩, fun x ox e => (hs.2 x ?_).trans (h.keep x ox e), h.hL, h.ndf, fun p hpm => ?_, by rw [hp.keys]; exact h.ndn, h.eqv' _ _⟩
  · rintro rfl
    rw [e4] at e; cases e
  · rcases hp.of h.ndn p hpm with rfl | ⟨h1, h2⟩
    · exact ⟨o', ho, hd, e3, e4⟩
    · obtain ⟨q, q1, q2⟩ := h.N p h1
      exact ⟨q, (hs.2 _ h2).trans q1, q2⟩
/-- a new object -/
theorem At.alloc (h : At w L b fr nw s) {o : Obj} {d : D} (hd : d.Is o) {h' : Heap} {tk : Nat} (k : Le s.heap h') {a : Addr} (ha : s.heap.get? a = none) (haL : h'.get? a = some o) : At w L b fr ((a, d) :: nw) { s with heap := h', toks := tk } := by
  have h2 := h.grow (tk := tk) k
  refine ⟨h2.gd, h2.ns, h2.keep, h2.hL, h2.ndf, fun p hp => ?_, ?_, h2.eqv⟩
  · rcases List.mem_cons.mp hp with rfl | hp
    · refine ⟨o, haL, hd, ?_, ?_⟩
      · rintro rfl
        obtain ⟨m, F, _⟩ := h.ns
        obtain ⟨oL, _, _, hL, _⟩ := F
        exact nomatch ha.symm.trans hL
      · cases q : b.heap.get? a with
        | none => rfl
        | some x => exact nomatch ha.symm.trans (h.keep _ _ q)
    · exact h2.N p hp
  · simp only [List.map_cons, List.nodup_cons]
    refine ⟨fun hm => ?_, h.ndn⟩
    obtain ⟨p, hp, e⟩ := List.mem_map.mp hm
    obtain ⟨q, q1, _⟩ := h.N p hp
    rw [e] at q1
    exact nomatch ha.symm.trans q1
theorem fresh_size (h : Heap) : h.get? h.objs.size = none := by
  cases q : h.get? h.objs.size with
  | none => rfl
  | some x => exact absurd (Heap.lt_size q) (Nat.lt_irrefl _)
theorem At.push (h : At w L b fr nw s) {o : Obj} {d : D} (hd : d.Is o) (tk : Nat) : At w L b fr ((s.heap.objs.size, d) :: nw) { s with heap := s.heap.push o, toks := tk } :=
  h.alloc hd (fun _ _ e => Heap.get?_push_of_some _ e) (fresh_size _) (Heap.get?_push_size _ hd.free)

/-- the whole heap but the locals and some made objects as a new base -/
theorem At.freeze {nf : List (Addr × D)} (h : At w L b fr nw s) (hn : ∀ p ∈ nf, p ∈ nw) (nd : (nf.map (·.1)).Nodup) :
    ∃ b' : Shared, Keeps b b' ∧ At w L b' fr nf s ∧ (∀ a o, a ≠ L → (∀ p ∈ nf, p.1 ≠ a) → s.heap.get? a = some o → b'.heap.get? a = some o) := by
  have hle : Le b.heap (hideAll s.heap (L :: nf.map (·.1))) := fun a o e => hideAll_get _ (h.keep a o e) fun hm => by
    rcases List.mem_cons.mp hm with rfl | hm
    · rw [h.hL] at e; cases e
    · obtain ⟨p, hp, rfl⟩ := List.mem_map.mp hm
      obtain ⟨_, _, _, _, e4⟩ := h.N p (hn p hp)
      rw [e4] at e; cases e
  refine ⟨{ b with heap := hideAll s.heap (L :: nf.map (·.1)) }, ⟨_, _, rfl, hle⟩, ⟨h.gd.mono hle, h.ns, fun a o e => of_hideAll _ e, hideAll_none _ (.head _), h.ndf, fun p hp => ?_, nd, h.eqv⟩, ?_⟩
  · obtain ⟨o, e1, e2, e3, e4⟩ := h.N p (hn p hp)
    exact ⟨o, e1, e2, e3, hideAll_none _ (.tail _ (List.mem_map_of_mem hp))⟩
  · intro a o ha hp e
    refine hideAll_get _ e fun hm => ?_
    rcases List.mem_cons.mp hm with rfl | hm
    · exact ha rfl
    · obtain ⟨p, hq, rfl⟩ := List.mem_map.mp hm
      exact hp p hq rfl

/-- every object but one, as a ledger over nothing: for the library's rules that speak of a frame and a ledger -/
def allNews (h : Heap) (L : Addr) : List (Addr × Obj) := (List.range h.objs.size).filterMap fun a => if a = L then none else (h.get? a).map fun o => (a, o)
theorem empty_get (a : Addr) : (({} : Heap).get? a) = none := by simp [Heap.get?]
theorem allNews_is (h : Heap) (L : Addr) : News ({} : Heap) L h (allNews h L) := by
  intro p hp
  obtain ⟨a, _, e⟩ := List.mem_filterMap.mp hp
  split at e
  · cases e
  · rename_i hne
    obtain ⟨o, ho, rfl⟩ := Option.map_eq_some_iff.mp e
    exact ⟨ho, hne, empty_get _⟩
theorem allNews_keep {h h' : Heap} {L : Addr} (N : News ({} : Heap) L h' (allNews h L)) : ∀ a o, a ≠ L → h.get? a = some o → h'.get? a = some o := by
  intro a o ha e
  exact (N (a, o) (List.mem_filterMap.mpr ⟨a, List.mem_range.mpr (Heap.lt_size e), by simp [ha, e]⟩)).1
theorem fr_empty {h : Heap} {L : Addr} {m : Str → Option Value} (hn : h.Ns L m) : Fr ({} : Heap) L h m := ⟨hn, fun a o e => (by rw [empty_get] at e; cases e), Nat.zero_le _⟩
/-- a library rule with a frame and a ledger, used -/
theorem At.lib (h : At w L b fr nw s) : ∃ m, Fr ({} : Heap) L s.heap m ∧ News ({} : Heap) L s.heap (allNews s.heap L) ∧ ∀ h' tk, Fr ({} : Heap) L h' m → News ({} : Heap) L h' (allNews s.heap L) → At w L b fr nw { s with heap := h', toks := tk } :=
  let ⟨m, hm, hf⟩ := h.ns
  ⟨m, fr_empty hm, allNews_is _ _, fun h' tk F N => h.growL F.ns hf h.ndf (allNews_keep N)⟩

/-- back to an elder base -/
theorem At.rebase {b' : Shared} (h : At w L b' fr nw s) (k : Keeps b b') (g : Gd w b.heap) : At w L b fr nw s := by
  obtain ⟨h', tk, rfl, k⟩ := k
  have none_of : ∀ {a : Addr}, h'.get? a = none → b.heap.get? a = none := fun {a} e => by
    cases q : b.heap.get? a with
    | none => rfl
    | some o => exact nomatch e.symm.trans (k _ _ q)
  exact ⟨g, h.ns, fun a o e => h.keep _ _ (k _ _ e), none_of h.hL, h.ndf, fun p hp => let ⟨o, h1, h2, h3, h4⟩ := h.N p hp; ⟨o, h1, h2, h3, none_of h4⟩, h.ndn, h.eqv⟩
theorem Keeps.rfl' (s : Shared) : Keeps s s := ⟨s.heap, s.toks, rfl, fun _ _ e => e⟩
theorem Keeps.trans' {s s' s'' : Shared} (h : Keeps s s') (h' : Keeps s' s'') : Keeps s s'' := by
  obtain ⟨h1, t1, rfl, k1⟩ := h
  obtain ⟨h2, t2, rfl, k2⟩ := h'
  exact ⟨h2, t2, rfl, fun a o e => k2 _ _ (k1 _ _ e)⟩
theorem Keeps.le {s s' : Shared} (h : Keeps s s') : Le s.heap s'.heap := by
  obtain ⟨h1, t1, rfl, k1⟩ := h
  exact k1
/-- a frame's start -/
theorem At.start {h₁ : Heap} {tk : Nat} {m : Str → Option Value} (g : Gd w s.heap) (hm : h₁.Ns s.heap.objs.size m) (hf : ∀ p ∈ fr, m p.1 = p.2) (ndf : (fr.map (·.1)).Nodup) (k : Le s.heap h₁) : At w s.heap.objs.size s fr [] { s with heap := h₁, toks := tk } :=
  ⟨g, ⟨m, hm, hf⟩, k, fresh_size _, ndf, fun _ h => (nomatch h), .nil, rfl⟩
/-- a frame's start over a list of the caller's that may change -/
theorem At.start1 {a : Addr} {d : D} {h₁ : Heap} {tk : Nat} {m : Str → Option Value} (h : At w L b fr nw s) (hd : Has nw a d) (hm : h₁.Ns s.heap.objs.size m) (hf : ∀ p ∈ fr', m p.1 = p.2) (ndf : (fr'.map (·.1)).Nodup) (k : Le s.heap h₁) :
    ∃ b' : Shared, Keeps b b' ∧ At w s.heap.objs.size b' fr' [(a, d)] { s with heap := h₁, toks := tk } ∧ (∀ x o, x ≠ a → s.heap.get? x = some o → b'.heap.get? x = some o) ∧
      ∀ (s' : Shared) (fr'' : List (Str × Option Value)) (d' : D) (nw' : List (Addr × D)), At w s.heap.objs.size b' fr'' [(a, d')] s' → Put nw a d' nw' → At w L b fr nw' s' := by
  obtain ⟨o, e1, e2, e3, e4⟩ := h.N _ hd.mem
  have hle : Le b.heap (hideAll s.heap [a]) := fun x o e => hideAll_get _ (h.keep x o e) fun hm => by
    obtain rfl := List.mem_singleton.mp hm
    rw [e4] at e; cases e
  have hle2 : Le (hideAll s.heap [a]) s.heap := fun _ _ e => of_hideAll _ e
  refine ⟨{ b with heap := hideAll s.heap [a] }, ⟨_, _, rfl, hle⟩, ⟨h.gd.mono hle, ⟨m, hm, hf⟩, fun x o e => k _ _ (hle2 _ _ e), ?_, ndf, fun p hp => ?_, by simp, h.eqv' _ _⟩, fun x o hx e => hideAll_get _ e (by simpa using hx), fun s' fr'' d' nw' h' hp => ?_⟩
  · cases q : (hideAll s.heap [a]).get? s.heap.objs.size with
    | none => rfl
    | some x => exact nomatch (fresh_size s.heap).symm.trans (of_hideAll _ q)
  · obtain rfl := List.mem_singleton.mp hp
    exact ⟨o, k _ _ e1, e2, Nat.ne_of_lt (Heap.lt_size e1), hideAll_none _ (.head _)⟩
  · have hkeep : ∀ x o, x ≠ a → s.heap.get? x = some o → s'.heap.get? x = some o := fun x o hx e => h'.keep _ _ (hideAll_get _ e (by simpa using hx))
    obtain ⟨oa, q1, q2, q3, q4⟩ := h'.N (a, d') (.head _)
    obtain ⟨m0, hm0, hf0⟩ := h.ns
    refine ⟨h.gd, ⟨m0, hm0.at' fun o e => hkeep _ _ (Ne.symm e3) e, hf0⟩, fun x o e => hkeep x o (fun q => by rw [q, e4] at e; cases e) (h.keep x o e), h.hL, h.ndf, fun p hpm => ?_, by rw [hp.keys]; exact h.ndn, ?_⟩
    · rcases hp.of h.ndn p hpm with rfl | ⟨h1, h2⟩
      · exact ⟨oa, q1, q2, e3, e4⟩
      · obtain ⟨q, q1, q2⟩ := h.N p h1
        exact ⟨q, hkeep _ _ h2 q1, q2⟩
    · exact h'.eqv
end
end Mine
end

-- C2
section
open PySem PySem.W PySem.Calls PyProof.Rows
set_option Elab.async false
set_option linter.unusedVariables false
namespace Mine

/-- the names that the text's defs read, with their values -/
abbrev gtab : List (Str × Value) := [
  ("_MAX_STRING_SIZE", .int 40 189), ("_MOVE_COST", .int 2 191), ("_CASE_COST", .int 1 193), ("_substitution_cost", .ref 21), ("_levenshtein_distance", .ref 28),
  ("heappush", .ref 35), ("heappop", .ref 42), ("heapreplace", .ref 49), ("_siftdown", .ref 56), ("_siftup", .ref 63), ("S_IFMT", .ref 70), ("S_IFREG", .int 32768 291),
  ("_filemode_table", .ref 103), ("filemode", .ref 110), ("_law_typed", .ref 117), ("_law_row", .ref 124), ("_law_cost", .ref 129), ("_law_nearest", .ref 136),
  ("len", .builtin "len"), ("range", .type "range"), ("min", .builtin "min"), ("list", .type "list"), ("enumerate", .type "enumerate"), ("sorted", .builtin "sorted"), ("zip", .type "zip")]

noncomputable def gObj (P : Params) : Obj := ((hd.heap_39 P).lookup 3).getD default
theorem gObj_is (P : Params) : (hd.heap_39 P).lookup 3 = some (gObj P) := by kernel_rfl
noncomputable def gEs (P : Params) : Array DictEntry := match (gObj P).data with | .dict es _ => es | _ => #[]
noncomputable def gEp (P : Params) : Nat := match (gObj P).data with | .dict _ n => n | _ => 0
theorem gObj_data (P : Params) : (gObj P).data = .dict (gEs P) (gEp P) := by kernel_rfl
theorem g_keys (P : Params) : ((gEs P).toList.all fun e => match e.key with | .str .. => true | _ => false) = true := by kernel_rfl
theorem g_tab (P : Params) : (gtab.all fun p => (nsFind (gEs P) p.1 == some p.2) || ((nsFind (gEs P) p.1).isNone && bootBuiltins p.1 == some p.2 && p.1 != "__name__")) = true := by kernel_rfl

def P0 : Params := { strHash := fun _ => 0, shareClass := fun _ => 0, mergeTok := id, idOf := fun a => a, idOfShared := fun _ _ => 8, followText := fun _ => true, idOfImm := fun _ => 16 }
/-- a def's statements -/
noncomputable def bodyOf (f : Addr) : List Stmt := match (hd.heap_39 P0).lookup f with
  | some ⟨_, _, .func fd, _⟩ => (match fd.body with | .stmts b => b | _ => [])
  | _ => []

structure EnvOk (env : Env) (ns : List (Str × NameKind)) : Prop where
  kind : env.scope.kind = .function
  names : env.scope.names = ns
  nodup : (ns.map (·.1)).Nodup
  nodbg : Str.ofString "__debug__" ∉ ns.map (·.1)
  glob : env.globals = mainGlobals
  blt : env.builtins = builtinsNs

theorem lookup_of {α β : Type} [BEq α] [LawfulBEq α] {x : α} {v : β} : ∀ {l : List (α × β)}, (l.map (·.1)).Nodup → (x, v) ∈ l → l.lookup x = some v
  | (y, u) :: r, nd, hm => by
    simp only [List.map_cons, List.nodup_cons] at nd
    rw [List.lookup_cons]
    rcases List.mem_cons.mp hm with e | hm'
    · cases e; simp
    · have : (x == y) = false := by
        rw [beq_eq_false_iff_ne]
        intro e
        exact nd.1 (e ▸ List.mem_map_of_mem (f := Prod.fst) hm')
      rw [this]; exact lookup_of nd.2 hm'
theorem EnvOk.kindOf {env : Env} {ns : List (Str × NameKind)} (h : EnvOk env ns) {x : Str} {k : NameKind} (hm : Has ns x k) : env.kindOf x = some k := by
  unfold Env.kindOf; rw [h.names]; exact lookup_of h.nodup hm.mem
theorem EnvOk.dbg {env : Env} {ns : List (Str × NameKind)} (h : EnvOk env ns) {x : Str} {k : NameKind} (hm : Has ns x k) : (x == ("__debug__" : Str)) = false := by
  rw [beq_eq_false_iff_ne]
  rintro rfl
  exact h.nodbg (List.mem_map_of_mem hm.mem)
theorem EnvOk.plain {env : Env} {ns : List (Str × NameKind)} (h : EnvOk env ns) : (env.scope.kind == .class || (env.scope.kind == .module && env.locals != env.globals)) = false := by rw [h.kind]; rfl

theorem EnvOk.inter {env : Env} {ns : List (Str × NameKind)} (h : EnvOk env ns) : interactive env = false := by
  unfold interactive
  rw [h.kind]
  rfl

/-- from every state of the assertion -/
def St (w : World) (L : Addr) (b : Shared) (fr : List (Str × Option Value)) (nw : List (Addr × D)) (R : Shared → Prop) : Prop := ∀ s, At w L b fr nw s → R s

section
variable {prog : Program} {w : World} {A : Around} {E : Value → Shared → Prop} {env : Env} {ns : List (Str × NameKind)} {b : Shared} {fr fr' : List (Str × Option Value)} {nw nw' : List (Addr × D)} {Q : Value → Shared → Prop} {L : Addr}

theorem r_loc {x : Str} {pos : Pos} {v : Value} (hE : EnvOk env ns) (hk : Has ns x .local) (hv : Has fr x (some v)) (k : St w env.locals b fr nw (Q v)) : St w env.locals b fr nw (wpAny (model prog w) A (eval (.Name x pos) env) Q E) := by
  intro s h
  obtain ⟨m, hm, hf⟩ := h.ns
  exact wpAny_Name (wpAny_loadName_local hE.kind (hE.kindOf hk) hm (hf _ hv.mem) (k s h)) (hE.dbg hk)
theorem r_ldn {x : Str} {v : Value} (hE : EnvOk env ns) (hk : Has ns x .local) (hv : Has fr x (some v)) (k : St w env.locals b fr nw (Q v)) : St w env.locals b fr nw (wpAny (model prog w) A (loadName env x) Q E) := by
  intro s h
  obtain ⟨m, hm, hf⟩ := h.ns
  exact wpAny_loadName_local hE.kind (hE.kindOf hk) hm (hf _ hv.mem) (k s h)
theorem r_glob {x : Str} {pos : Pos} {v : Value} (hE : EnvOk env ns) (hk : Has ns x .globalImplicit) (hv : Has gtab x v) (k : St w env.locals b fr nw (Q v)) : St w env.locals b fr nw (wpAny (model prog w) A (eval (.Name x pos) env) Q E) := by
  intro s h
  have g := h.gds
  have hg : s.heap.Ns env.globals (nsFind (gEs w.params)) := by
    rw [hE.glob]
    refine ⟨_, _, _, g.K _ _ (gObj_is _), gObj_data _, fun e he => ?_, fun _ => rfl⟩
    have := List.all_eq_true.mp (g_keys w.params) e (Array.mem_toList_iff.mpr he)
    split at this
    · exact ⟨_, _, by assumption⟩
    · cases this
  have ht := List.all_eq_true.mp (g_tab w.params) _ hv.mem
  rw [Bool.or_eq_true] at ht
  refine Name_function_global hE.kind (hE.kindOf hk) ?_ (hE.dbg hk)
  rcases ht with ht | ht
  · exact loadGlobal_global hg (eq_of_beq ht) (k s h)
  · simp only [Bool.and_eq_true] at ht
    obtain ⟨⟨h1, h2⟩, h3⟩ := ht
    obtain ⟨mb, hb, hbb⟩ := g.B
    refine loadGlobal_builtin (mb := mb) hg (Option.isNone_iff_eq_none.mp h1) (by rw [hE.blt]; exact hb) ?_ (k s h)
    rw [hbb _ (bne_iff_ne.mp h3)]; exact eq_of_beq h2
theorem r_store {x : Str} {v : Value} {Q : Unit → Shared → Prop} (hE : EnvOk env ns) (hk : Has ns x .local) (hp : Put fr x (some v) fr') (k : St w env.locals b fr' nw (Q ())) : St w env.locals b fr nw (wpAny (model prog w) A (storeName env x v) Q E) := by
  intro s h
  obtain ⟨m, hm, hf⟩ := h.ns
  refine wpAny_storeName_local (hE.kindOf hk) hm (fun h' hn hs => k _ ?_) hE.plain
  refine h.growL hn (fun p hpm => ?_) (by rw [hp.keys]; exact h.ndf) (fun a o ha e => (hs.2 a ha).trans e)
  rcases hp.of h.ndf p hpm with rfl | ⟨h1, h2⟩
  · simp
  · simp only [if_neg h2]; exact hf p h1

/-! ## constants -/
theorem r_int {i : Int} {k pos} (h : ∀ t, St w L b fr nw (Q (.int i t))) : St w L b fr nw (wpAny (model prog w) A (eval (.Constant (.int i) k pos) env) Q E) := fun s hs => wpAny_Constant_int (h _ _ (hs.toks _))
theorem r_str {x : Str} {k pos} (h : ∀ t, St w L b fr nw (Q (.str x t))) : St w L b fr nw (wpAny (model prog w) A (eval (.Constant (.str x) k pos) env) Q E) := fun s hs => Constant_str (h _ _ (hs.toks _))
theorem r_none {k pos} (h : St w L b fr nw (Q .none)) : St w L b fr nw (wpAny (model prog w) A (eval (.Constant .none k pos) env) Q E) := fun s hs => fun _ _ _ => h _ hs
theorem r_bool {c : Bool} {k pos} (h : St w L b fr nw (Q (.bool c))) : St w L b fr nw (wpAny (model prog w) A (eval (.Constant (.bool c) k pos) env) Q E) := fun s hs => fun _ _ _ => h _ hs

/-! ## expressions -/
theorem r_BinOp {l op r pos} (h : St w L b fr nw (wpAny (model prog w) A (eval l env) (fun a => wpAny (model prog w) A (eval r env) (fun c => wpAny (model prog w) A (binaryOp op a c) Q E) E) E)) : St w L b fr nw (wpAny (model prog w) A (eval (.BinOp l op r pos) env) Q E) := fun s hs => wpAny_BinOp (h s hs)
theorem r_UnaryOp {op x pos} (h : St w L b fr nw (wpAny (model prog w) A (eval x env) (fun v => wpAny (model prog w) A (unaryOp op v) Q E) E)) : St w L b fr nw (wpAny (model prog w) A (eval (.UnaryOp op x pos) env) Q E) := fun s hs => wpAny_UnaryOp (h s hs)
theorem r_Compare {l op r pos} (h : St w L b fr nw (wpAny (model prog w) A (eval l env) (fun a => wpAny (model prog w) A (eval r env) (fun c => wpAny (model prog w) A (compareOp op a c) Q E) E) E)) (hm : behindInMarks op r = false := by with_unfolding_all rfl) : St w L b fr nw (wpAny (model prog w) A (eval (.Compare l [op] [r] pos) env) Q E) := fun s hs => wpAny_Compare1 (h s hs) hm
theorem r_Or {x y : Expr} {pos : Pos} (h : St w L b fr nw (wpAny (model prog w) A (eval x env) (fun v => wpAny (model prog w) A (truthy v) (fun t s₂ => if t then Q v s₂ else wpAny (model prog w) A (eval y env) Q E s₂) E) E)) : St w L b fr nw (wpAny (model prog w) A (eval (.BoolOp .Or [x, y] pos) env) Q E) := fun s hs => wpAny_Or2 (h s hs)
theorem r_IfExp {test body orelse : Expr} {pos : Pos} (h : St w L b fr nw (wpAny (model prog w) A (isTrue test env (eval test env)) (fun c s₁ => if c then wpAny (model prog w) A (eval body env) Q E s₁ else wpAny (model prog w) A (eval orelse env) Q E s₁) E)) : St w L b fr nw (wpAny (model prog w) A (eval (.IfExp test body orelse pos) env) Q E) := fun s hs => wpAny_IfExp (h s hs)
theorem r_Subscript {value slice pos} (h : St w L b fr nw (wpAny (model prog w) A (eval value env) (fun o => wpAny (model prog w) A (eval slice env) (fun i => wpAny (model prog w) A (subscriptTail value slice o i) Q E) E) E)) : St w L b fr nw (wpAny (model prog w) A (eval (.Subscript value slice pos) env) Q E) := fun s hs => Subscript_ (h s hs)
theorem r_Call {func : Expr} {args : List Expr} {pos : Pos} (h : St w L b fr nw (wpAny (model prog w) A (eval func env) (fun f => wpAny (model prog w) A (callWith pos f [] (backTo pos (starEach args env)) []) Q E) E))
    (he : eval (.Call func args [] pos) env = (do callWith pos (← eval func env) [] (backTo pos (starEach args env)) (backToKw pos (keywordEach [] env))) := by with_unfolding_all rfl) : St w L b fr nw (wpAny (model prog w) A (eval (.Call func args [] pos) env) Q E) := fun s hs => Call_ (h s hs) he
theorem r_CallN {x : Str} {px : Pos} {args : List Expr} {pos : Pos} (h : St w L b fr nw (wpAny (model prog w) A (eval (.Name x px) env) (fun f => wpAny (model prog w) A (callWith pos f [] (backTo pos (starEach args env)) []) Q E) E)) : St w L b fr nw (wpAny (model prog w) A (eval (.Call (.Name x px) args [] pos) env) Q E) := fun s hs => Call_ (h s hs) (by with_unfolding_all rfl)
theorem r_args_nil {pos : Pos} {Q : List Value → Shared → Prop} (h : St w L b fr nw (Q [])) : St w L b fr nw (wpAny (model prog w) A (spliced (backTo pos (starEach [] env))) Q E) := fun s hs => args_nil (h s hs)
theorem r_args {e : Expr} {rest : List Expr} {pos : Pos} {Q : List Value → Shared → Prop} (h : St w L b fr nw (wpAny (model prog w) A (eval e env) (fun v => wpAny (model prog w) A (spliced (backTo pos (starEach rest env))) (fun vs => Q (v :: vs)) E) E))
    (he : starEach (e :: rest) env = (false, eval e env) :: starEach rest env := by with_unfolding_all rfl) : St w L b fr nw (wpAny (model prog w) A (spliced (backTo pos (starEach (e :: rest) env))) Q E) := fun s hs => args_cons (h s hs) he
theorem r_cw_builtin {pos : Pos} {id : String} {e : Expr} {rest : List Expr} (h : St w L b fr nw (wpAny (model prog w) A (spliced (backTo pos (starEach (e :: rest) env))) (fun vs => wpAny (model prog w) A (call (.builtin id) vs) Q E) E))
    (he : starEach (e :: rest) env = (false, eval e env) :: starEach rest env := by with_unfolding_all rfl) (hplain : (backTo pos (starEach rest env)).any (·.1) = false := by with_unfolding_all rfl) : St w L b fr nw (wpAny (model prog w) A (callWith pos (.builtin id) [] (backTo pos (starEach (e :: rest) env)) []) Q E) := fun s hs => PyProof.Rows.callWith_builtin1 (h s hs) he hplain
theorem r_cw_type {pos : Pos} {T : String} {e : Expr} {rest : List Expr} (h : St w L b fr nw (wpAny (model prog w) A (spliced (backTo pos (starEach (e :: rest) env))) (fun vs => wpAny (model prog w) A (call (.type T) vs) Q E) E))
    (he : starEach (e :: rest) env = (false, eval e env) :: starEach rest env := by with_unfolding_all rfl) (hplain : (backTo pos (starEach rest env)).any (·.1) = false := by with_unfolding_all rfl) : St w L b fr nw (wpAny (model prog w) A (callWith pos (.type T) [] (backTo pos (starEach (e :: rest) env)) []) Q E) := fun s hs => PyProof.Rows.callWith_type1 (h s hs) he hplain
/-- one of the text's defs -/
def IsFn (f : Addr) : Prop := ∀ P : Params, ∃ o fd, (hd.heap_39 P).lookup f = some o ∧ o.data = .func fd
theorem isFn21 : IsFn 21 := fun P => ⟨_, _, by with_unfolding_all rfl, rfl⟩
theorem isFn28 : IsFn 28 := fun P => ⟨_, _, by with_unfolding_all rfl, rfl⟩
theorem isFn35 : IsFn 35 := fun P => ⟨_, _, by with_unfolding_all rfl, rfl⟩
theorem isFn42 : IsFn 42 := fun P => ⟨_, _, by with_unfolding_all rfl, rfl⟩
theorem isFn49 : IsFn 49 := fun P => ⟨_, _, by with_unfolding_all rfl, rfl⟩
theorem isFn56 : IsFn 56 := fun P => ⟨_, _, by with_unfolding_all rfl, rfl⟩
theorem isFn63 : IsFn 63 := fun P => ⟨_, _, by with_unfolding_all rfl, rfl⟩
theorem isFn70 : IsFn 70 := fun P => ⟨_, _, by with_unfolding_all rfl, rfl⟩
theorem isFn110 : IsFn 110 := fun P => ⟨_, _, by with_unfolding_all rfl, rfl⟩
theorem isFn117 : IsFn 117 := fun P => ⟨_, _, by with_unfolding_all rfl, rfl⟩
theorem isFn124 : IsFn 124 := fun P => ⟨_, _, by with_unfolding_all rfl, rfl⟩
theorem isFn129 : IsFn 129 := fun P => ⟨_, _, by with_unfolding_all rfl, rfl⟩
theorem isFn136 : IsFn 136 := fun P => ⟨_, _, by with_unfolding_all rfl, rfl⟩
theorem r_cw_def {pos : Pos} {f : Addr} {e : Expr} {rest : List Expr} (hf : IsFn f) (h : St w L b fr nw (wpAny (model prog w) A (spliced (backTo pos (starEach (e :: rest) env))) (fun vs s₁ => (∀ o, (hd.heap_39 w.params).lookup f = some o → s₁.heap.get? f = some o) ∧ wpAny (model prog w) A (call (.ref f) vs) Q E s₁) E))
    (he : starEach (e :: rest) env = (false, eval e env) :: starEach rest env := by with_unfolding_all rfl) : St w L b fr nw (wpAny (model prog w) A (callWith pos (.ref f) [] (backTo pos (starEach (e :: rest) env)) []) Q E) := fun s hs => by
  obtain ⟨o, fd, ho, hdt⟩ := hf w.params
  exact callWith_def hdt (wpAny_mono (h s hs) (fun vs s₁ h₁ => ⟨h₁.1 o ho, h₁.2⟩) fun _ _ x => x) he
theorem r_fn {f : Addr} {R : Shared → Prop} (h : St w L b fr nw R) : St w L b fr nw (fun s₁ => (∀ o, (hd.heap_39 w.params).lookup f = some o → s₁.heap.get? f = some o) ∧ R s₁) := fun s hs => ⟨fun o ho => hs.gds.K _ _ ho, h s hs⟩

/-! ## tests -/
theorem t_Compare {l op r pos whole} {Q : Bool → Shared → Prop} (h : St w L b fr nw (wpAny (model prog w) A (eval l env) (fun a => wpAny (model prog w) A (eval r env) (fun c => wpAny (model prog w) A (compareOp op a c) (fun c => wpAny (model prog w) A (truthy c) Q E) E) E) E)) (hm : behindInMarks op r = false := by with_unfolding_all rfl) : St w L b fr nw (wpAny (model prog w) A (isTrue (.Compare l [op] [r] pos) env whole) Q E) := fun s hs => wpAny_isTrue_Compare1 (h s hs) hm
theorem t_Not {x pos whole} {Q : Bool → Shared → Prop} (h : St w L b fr nw (wpAny (model prog w) A (isTrue x env (eval x env)) (fun c => Q (!c)) E)) : St w L b fr nw (wpAny (model prog w) A (isTrue (.UnaryOp .Not x pos) env whole) Q E) := fun s hs => wpAny_isTrue_Not (h s hs)
theorem t_BoolOp {op : BoolOp} {values : List Expr} {pos : Pos} {whole : Sem Value} {Q : Bool → Shared → Prop} (h : St w L b fr nw (wpAny (model prog w) A (allTrue op values env) Q E)) : St w L b fr nw (wpAny (model prog w) A (isTrue (.BoolOp op values pos) env whole) Q E) := fun s hs => wpAny_isTrue_BoolOp (h s hs)
theorem t_And_nil {Q : Bool → Shared → Prop} (h : St w L b fr nw (Q true)) : St w L b fr nw (wpAny (model prog w) A (allTrue .And [] env) Q E) := fun s hs => wpAny_allTrue_And_nil (h s hs)
theorem t_Or_nil {Q : Bool → Shared → Prop} (h : St w L b fr nw (Q false)) : St w L b fr nw (wpAny (model prog w) A (allTrue .Or [] env) Q E) := fun s hs => wpAny_allTrue_Or_nil (h s hs)
theorem t_And {x rest} {Q : Bool → Shared → Prop} (h : St w L b fr nw (wpAny (model prog w) A (isTrue x env (eval x env)) (fun c s₁ => if c then wpAny (model prog w) A (allTrue .And rest env) Q E s₁ else Q false s₁) E)) : St w L b fr nw (wpAny (model prog w) A (allTrue .And (x :: rest) env) Q E) := fun s hs => wpAny_allTrue_And_cons (h s hs)
theorem t_Or {x rest} {Q : Bool → Shared → Prop} (h : St w L b fr nw (wpAny (model prog w) A (isTrue x env (eval x env)) (fun c s₁ => if c then Q true s₁ else wpAny (model prog w) A (allTrue .Or rest env) Q E s₁) E)) : St w L b fr nw (wpAny (model prog w) A (allTrue .Or (x :: rest) env) Q E) := fun s hs => wpAny_allTrue_Or_cons (h s hs)
theorem t_val {e : Expr} {whole : Sem Value} {Q : Bool → Shared → Prop} (h : St w L b fr nw (wpAny (model prog w) A whole (fun v => wpAny (model prog w) A (truthy v) Q E) E))
    (he : isTrue e env whole = (do let v ← whole; standAt e.pos; holding [v] (truthy v)) := by with_unfolding_all rfl) : St w L b fr nw (wpAny (model prog w) A (isTrue e env whole) Q E) := fun s hs => wpAny_isTrue_value (h s hs) he
theorem t_bool {c : Bool} {Q : Bool → Shared → Prop} (h : St w L b fr nw (Q c)) : St w L b fr nw (wpAny (model prog w) A (truthy (.bool c)) Q E) := fun s hs => wpAny_truthy_bool (h s hs)
theorem t_int {i : Int} {t : Tok} {Q : Bool → Shared → Prop} (h : St w L b fr nw (Q (i != 0))) : St w L b fr nw (wpAny (model prog w) A (truthy (.int i t)) Q E) := fun s hs => PyProof.Rows.truthy_int (h s hs)
theorem t_str {x : Str} {t : Tok} {Q : Bool → Shared → Prop} (hx : x.length < 2 ^ 62) (h : St w L b fr nw (Q (decide (x.length ≠ 0)))) : St w L b fr nw (wpAny (model prog w) A (truthy (.str x t)) Q E) := fun s hs => by
  refine PySem.P.truthy_str (by omega) ?_
  have e : ((x.length : Int) != 0) = decide (x.length ≠ 0) := by rw [Bool.eq_iff_iff]; simp
  rw [e]; exact h _ (hs.toks _)
theorem r_if {c : Bool} {R R' : Shared → Prop} (h1 : c = true → St w L b fr nw R) (h2 : c = false → St w L b fr nw R') : St w L b fr nw (fun s => if c then R s else R' s) := fun s hs => by
  cases c with
  | true => simp only [if_true]; exact h1 rfl s hs
  | false => simp only [Bool.false_eq_true, if_false]; exact h2 rfl s hs

/-! ## statements -/
/-- what stands behind a statement -/
def Nx (prog : Program) (w : World) (A : Around) (rest : List Stmt) (env : Env) (Q : Flow → Shared → Prop) (E : Value → Shared → Prop) (f : Flow) : Shared → Prop := match f with
  | .next => wpAny (model prog w) A (execs rest env) Q E
  | f => Q f
variable {QF : Flow → Shared → Prop}
theorem s_cons {st rest} (h : St w L b fr nw (wpAny (model prog w) A (exec st env) (Nx prog w A rest env QF E) E)) : St w L b fr nw (wpAny (model prog w) A (execs (st :: rest) env) QF E) := fun s hs =>
  wpAny_execs_cons (wpAny_mono (h s hs) (fun f s' h' => by cases f <;> exact h') fun _ _ x => x)
theorem s_nil (h : St w L b fr nw (QF .next)) : St w L b fr nw (wpAny (model prog w) A (execs [] env) QF E) := fun s hs => wpAny_execs_nil (h s hs)
theorem n_next {rest} (h : St w L b fr nw (wpAny (model prog w) A (execs rest env) QF E)) : St w L b fr nw (Nx prog w A rest env QF E .next) := h
theorem n_ret {rest v} (h : St w L b fr nw (QF (.ret v))) : St w L b fr nw (Nx prog w A rest env QF E (.ret v)) := h
theorem n_brk {rest} (h : St w L b fr nw (QF .brk)) : St w L b fr nw (Nx prog w A rest env QF E .brk) := h
theorem n_cont {rest} (h : St w L b fr nw (QF .cont)) : St w L b fr nw (Nx prog w A rest env QF E .cont) := h
theorem s_Assign {x pos' value pos} (h : St w L b fr nw (wpAny (model prog w) A (eval value env) (fun v => wpAny (model prog w) A (storeName env x v) (fun _ => QF .next) E) E)) (hs : swapsWith value (some (.Name x pos')) pos.line env = pure false := by with_unfolding_all rfl) : St w L b fr nw (wpAny (model prog w) A (exec (.Assign [.Name x pos'] value pos) env) QF E) := fun s h' => wpAny_Assign_Name (h s h') hs
theorem s_Assign2 {x y px py value pos} (h : St w L b fr nw (wpAny (model prog w) A (eval value env) (fun v => wpAny (model prog w) A (storeName env x v) (fun _ => wpAny (model prog w) A (storeName env y v) (fun _ => QF .next) E) E) E))
    (hw : swappedStores [.Name x px, .Name y py] value env = pure none := by with_unfolding_all rfl) : St w L b fr nw (wpAny (model prog w) A (exec (.Assign [.Name x px, .Name y py] value pos) env) QF E) := fun s h' =>
  wpAny_Assign_two (wpAny_mono (h s h') (fun v s₁ h₁ => wpAny_assign_Name (wpAny_mono h₁ (fun _ s₂ h₂ => wpAny_assign_Name h₂) fun _ _ x => x)) fun _ _ x => x) rfl hw
theorem s_AssignSub {o i pos' value pos} (h : St w L b fr nw (wpAny (model prog w) A (eval value env) (fun v => wpAny (model prog w) A (eval o env) (fun ov => wpAny (model prog w) A (eval i env) (fun iv => wpAny (model prog w) A (setItem ov iv v) (fun _ => QF .next) E) E) E) E))
    (hs : swapsWith value (some (.Subscript o i pos')) pos.line env = pure false := by with_unfolding_all rfl) : St w L b fr nw (wpAny (model prog w) A (exec (.Assign [.Subscript o i pos'] value pos) env) QF E) := fun s h' => wpAny_Assign_Subscript (h s h') hs
theorem s_AssignTup {elts k tpos value pos} (h : St w L b fr nw (wpAny (model prog w) A (eval value env) (fun v => wpAny (model prog w) A (assign (.Tuple elts k tpos) env v) (fun _ => QF .next) E) E))
    (hs : swapsWithSole [.Tuple elts k tpos] value pos.line env = pure false := by with_unfolding_all rfl) (hw : swappedStores [.Tuple elts k tpos] value env = pure none := by with_unfolding_all rfl) : St w L b fr nw (wpAny (model prog w) A (exec (.Assign [.Tuple elts k tpos] value pos) env) QF E) := fun s h' => Assign_Tuple (h s h') hs hw
theorem s_Aug {x pos' op value pos} (h : St w L b fr nw (wpAny (model prog w) A (loadName env x) (fun old => wpAny (model prog w) A (eval value env) (fun v => wpAny (model prog w) A (inplaceOp op old v) (fun r => wpAny (model prog w) A (storeName env x r) (fun _ => QF .next) E) E) E) E)) : St w L b fr nw (wpAny (model prog w) A (exec (.AugAssign (.Name x pos') op value pos) env) QF E) := fun s h' => wpAny_AugAssign_Name (h s h')
theorem s_If {test body orelse pos} (h : St w L b fr nw (wpAny (model prog w) A (isTrue test env (eval test env)) (fun c s₂ => if c then wpAny (model prog w) A (execs body env) QF E s₂ else wpAny (model prog w) A (execs orelse env) QF E s₂) E)) : St w L b fr nw (wpAny (model prog w) A (exec (.If test body orelse pos) env) QF E) := fun s h' => wpAny_If (h s h')
theorem s_Return {e pos} (h : St w L b fr nw (wpAny (model prog w) A (eval e env) (fun v => QF (.ret v)) E)) : St w L b fr nw (wpAny (model prog w) A (exec (.Return (some e) pos) env) QF E) := fun s h' => wpAny_Return_some (h s h')
theorem s_Break {pos} (h : St w L b fr nw (QF .brk)) : St w L b fr nw (wpAny (model prog w) A (exec (.Break pos) env) QF E) := fun s h' => wpAny_Break (h s h')
theorem s_Continue {pos} (h : St w L b fr nw (QF .cont)) : St w L b fr nw (wpAny (model prog w) A (exec (.Continue pos) env) QF E) := fun s h' => wpAny_Continue (h s h')
theorem s_Expr {e pos} (h : St w L b fr nw (wpAny (model prog w) A (eval e env) (fun _ => QF .next) E)) (hi : interactive env = false := by with_unfolding_all rfl) (hs : swapsWith e none pos.line env = pure false := by with_unfolding_all rfl) : St w L b fr nw (wpAny (model prog w) A (exec (.Expr e pos) env) QF E) := fun s h' => wpAny_Expr_any (h s h') hi hs

/-! ## ints -/
variable {x y : Int} {t u : Tok}
theorem i_add (h : ∀ t, St w L b fr nw (Q (.int (x + y) t))) : St w L b fr nw (wpAny (model prog w) A (binaryOp .Add (.int x t) (.int y u)) Q E) := fun s hs => PyProof.Rows.add_int (h _ _ (hs.toks _))
theorem i_sub (h : ∀ t, St w L b fr nw (Q (.int (x - y) t))) : St w L b fr nw (wpAny (model prog w) A (binaryOp .Sub (.int x t) (.int y u)) Q E) := fun s hs => PyProof.Rows.sub_int (h _ _ (hs.toks _))
theorem i_iadd (h : ∀ t, St w L b fr nw (Q (.int (x + y) t))) : St w L b fr nw (wpAny (model prog w) A (inplaceOp .Add (.int x t) (.int y u)) Q E) := fun s hs => PyProof.Rows.iadd_int (h _ _ (hs.toks _))
theorem i_isub (h : ∀ t, St w L b fr nw (Q (.int (x - y) t))) : St w L b fr nw (wpAny (model prog w) A (inplaceOp .Sub (.int x t) (.int y u)) Q E) := fun s hs => PyProof.Rows.isub_int (h _ _ (hs.toks _))
theorem i_mod (hb : y ≠ 0) (h : ∀ t, St w L b fr nw (Q (.int (x.fmod y) t))) : St w L b fr nw (wpAny (model prog w) A (binaryOp .Mod (.int x t) (.int y u)) Q E) := fun s hs => PyProof.Rows.mod_int hb (h _ _ (hs.toks _))
theorem i_neg (h : ∀ t, St w L b fr nw (Q (.int (-x) t))) : St w L b fr nw (wpAny (model prog w) A (unaryOp .USub (.int x t)) Q E) := fun s hs => PyProof.Rows.neg_int (h _ _ (hs.toks _))
theorem i_and (h : ∀ t, St w L b fr nw (Q (.int (Builtin.bitAnd x y) t))) : St w L b fr nw (wpAny (model prog w) A (binaryOp .BitAnd (.int x t) (.int y u)) Q E) := fun s hs => PyProof.Rows.and_int (h _ _ (hs.toks _))
theorem i_shr (hn : 0 ≤ y) (h : ∀ t, St w L b fr nw (Q (.int (x.fdiv (2 ^ y.toNat)) t))) : St w L b fr nw (wpAny (model prog w) A (binaryOp .RShift (.int x t) (.int y u)) Q E) := fun s hs => PyProof.Rows.rshift_int hn (h _ _ (hs.toks _))
theorem i_lt (h : St w L b fr nw (Q (.bool (decide (x < y))))) : St w L b fr nw (wpAny (model prog w) A (compareOp .Lt (.int x t) (.int y u)) Q E) := fun s hs => PyProof.Rows.lt_int (h _ hs)
theorem i_le (h : St w L b fr nw (Q (.bool (decide (x ≤ y))))) : St w L b fr nw (wpAny (model prog w) A (compareOp .LtE (.int x t) (.int y u)) Q E) := fun s hs => PyProof.Rows.le_int (h _ hs)
theorem i_gt (h : St w L b fr nw (Q (.bool (decide (y < x))))) : St w L b fr nw (wpAny (model prog w) A (compareOp .Gt (.int x t) (.int y u)) Q E) := fun s hs => PyProof.Rows.gt_int (h _ hs)
theorem i_eq (h : St w L b fr nw (Q (.bool (decide (x = y))))) : St w L b fr nw (wpAny (model prog w) A (compareOp .Eq (.int x t) (.int y u)) Q E) := fun s hs => PyProof.Rows.eq_int (by
  have e : (x == y) = decide (x = y) := by rw [Bool.eq_iff_iff]; simp
  rw [e]; exact h _ hs)
end
end Mine
end

-- C3
section
open PySem PySem.W PySem.Calls PyProof.Rows
set_option Elab.async false
set_option linter.unusedVariables false
set_option maxRecDepth 20000
namespace Mine

/-- room -/
structure Ok (A : Around) (n : Nat) : Prop where
  handled : A.handled = none
  depth : A.depth + n < 900
  units : A.units + 4 * n < 9000
theorem Ok.deeper {A : Around} {n : Nat} (h : Ok A (n + 1)) (env : Env) : Ok (A.deeper env) n :=
  ⟨h.handled, by have := h.depth; rw [depth_deeper]; omega, by have := h.units; simp only [Around.deeper_units]; omega⟩
theorem Ok.le {A : Around} {n m : Nat} (h : Ok A n) (hm : m ≤ n) : Ok A m := ⟨h.handled, by have := h.depth; omega, by have := h.units; omega⟩

section
variable {prog : Program} {w : World} {A : Around} {E : Value → Shared → Prop}

theorem fr_of {binds : List (Str × Value)} {fr : List (Str × Option Value)} (h : fr.map (fun p => binds.reverse.lookup p.1) = fr.map (·.2)) : ∀ p ∈ fr, binds.reverse.lookup p.1 = p.2 := by
  induction fr with
  | nil => intro p hp; cases hp
  | cons q r ih =>
    simp only [List.map_cons, List.cons.injEq] at h
    intro p hp
    rcases List.mem_cons.mp hp with rfl | hp
    · exact h.1
    · exact ih h.2 p hp

/-- a call of one of the text's defs that writes nothing of its caller's -/
theorem fn_enter {s : Shared} {R : Value → Shared → Prop} {f : Addr} {o : Obj} {fd : FuncData} {body : List Stmt} {args : List Value} {binds : List (Str × Value)} {ns : List (Str × NameKind)} (fr : List (Str × Option Value))
    (g : Gd w s.heap) (ok : A.depth < 900) (ho : (hd.heap_39 w.params).lookup f = some o) (hdt : o.data = .func fd) (hb : fd.body = .stmts body) (hc : codeIn (hd.heap_39 w.params) fd.code fd.qualname = true)
    (hbind : bindArgs fd ⟨args, []⟩ = pure binds) (hns : fd.scope.names = ns) (hcell : ns.all (fun x => x.2 != .cell) = true) (hloc : binds.all (fun y => decide (ns.lookup y.1 = some .local)) = true)
    (hfr : fr.map (fun p => binds.reverse.lookup p.1) = fr.map (·.2)) (ndf : (fr.map (·.1)).Nodup) (ndn : (ns.map (·.1)).Nodup ∧ Str.ofString "__debug__" ∉ ns.map (·.1))
    (hco : (fd.scope.isCoroutine || fd.scope.isGenerator || !(fd.scope.kind == .function) || !(fd.globals == mainGlobals) || !(fd.builtins == builtinsNs)) = false)
    (h : ∀ env, EnvOk env ns → St w env.locals s fr [] (wpAny (model prog w) (A.deeper env) (execs body env) (fun fl s' => R (match fl with | .ret v => v | _ => .none) s') (fun _ _ => False))) :
    wpAny (model prog w) A (call (.ref f) args) R E s := by
  simp only [Bool.or_eq_false_iff, Bool.not_eq_false', beq_iff_eq] at hco
  obtain ⟨⟨⟨⟨h1, h2⟩, h3⟩, h4⟩, h5⟩ := hco
  subst hns
  refine wpAny_call (codeAny_call_def (fd := fd) (body := body) (binds := binds) (by show A.depth < 1000; omega) (g.K _ _ ho) hdt g.lim (codeRec_of g.K hc) hb (BindsTo.of_eq hbind) (fun x hx => ?_) (fun y hy => of_decide_eq_true (List.all_eq_true.mp hloc y hy)) (fun h₁ hns hk₁ => ?_) h1 h2 h3)
  · have := List.all_eq_true.mp hcell x hx
    simpa using this
  · exact wpAny_mono (h (callEnv fd s.heap.objs.size f) ⟨h3, rfl, ndn.1, ndn.2, h4, h5⟩ _ (At.start g hns (fr_of hfr) ndf hk₁)) (fun fl s' q => q) fun _ _ q => q.elim
end

section
variable {prog : Program} {w : World} {A : Around} {E : Value → Shared → Prop} {env : Env} {ns : List (Str × NameKind)} {b : Shared} {fr fr' : List (Str × Option Value)} {nw nw' : List (Addr × D)} {Q : Value → Shared → Prop} {L : Addr}
/-- behind a call that only grows the heap -/
theorem St.kept {R : Shared → Prop} {s : Shared} (hs : At w L b fr nw s) (k : St w L b fr nw R) : ∀ s', Keeps s s' → R s' := fun s' q => k s' (hs.keeps q)

/-! ## texts -/
abbrev T (l : List Nat) : Str := ⟨l.toArray⟩
theorem T_len (l : List Nat) : (T l).length = l.length := by simp [Str.length]
theorem T_eta (x : Str) : T x.cps.toList = x := by cases x; simp
theorem T_inj {l l' : List Nat} : T l = T l' ↔ l = l' := ⟨fun h => by injection h with h; simpa using h, fun h => h ▸ rfl⟩

theorem i_seq {x y : Str} {t u : Tok} (h : St w L b fr nw (Q (.bool (decide (x = y))))) : St w L b fr nw (wpAny (model prog w) A (compareOp .Eq (.str x t) (.str y u)) Q E) := fun s hs => PyProof.Rows.eq_str (by
  have e : (x == y) = decide (x = y) := by rw [Bool.eq_iff_iff]; simp
  rw [e]; exact h _ hs)
theorem i_cat {x y : List Nat} {t u : Tok} (hl : x.length + y.length < 2 ^ 20) (h : ∀ t, St w L b fr nw (Q (.str (T (x ++ y)) t))) : St w L b fr nw (wpAny (model prog w) A (binaryOp .Add (.str (T x) t) (.str (T y) u)) Q E) := fun s hs => PyProof.Rows.add_str (fun t' tk => by
  have e : T x ++ T y = T (x ++ y) := by show Str.append (T x) (T y) = _; simp [Str.append, T]
  rw [e]; exact h _ _ (hs.toks _)) (by rw [T_len, T_len, sizeLine_eq]; omega)
theorem i_icat {x y : List Nat} {t u : Tok} (hl : x.length + y.length < 2 ^ 20) (h : ∀ t, St w L b fr nw (Q (.str (T (x ++ y)) t))) : St w L b fr nw (wpAny (model prog w) A (inplaceOp .Add (.str (T x) t) (.str (T y) u)) Q E) := fun s hs => PyProof.Rows.iadd_str (fun t' tk => by
  have e : T x ++ T y = T (x ++ y) := by show Str.append (T x) (T y) = _; simp [Str.append, T]
  rw [e]; exact h _ _ (hs.toks _)) (by rw [T_len, T_len, sizeLine_eq]; omega)
theorem c_len_str {x : List Nat} {t : Tok} (hl : x.length < 2 ^ 20) (h : ∀ t, St w L b fr nw (Q (.int x.length t))) : St w L b fr nw (wpAny (model prog w) A (call (.builtin "len") [.str (T x) t]) Q E) := fun s hs => PyProof.Rows.len_str (by rw [T_len]; omega) (by rw [T_len]; exact h _ _ (hs.toks _))
theorem c_lower {x : List Nat} {t : Tok} (hl : x.length < 2 ^ 20) (ha : ∀ c ∈ x, c < 128) (h : ∀ t, St w L b fr nw (Q (.str (T (x.map lo1)) t))) : St w L b fr nw (wpAny (model prog w) A (call (.builtin "str.lower") [.str (T x) t]) Q E) := fun s hs => SCL.lower (by rw [T_len]; omega) fun _ => by
  have e : Txt.lower (T x) = T (x.map lo1) := by rw [lower_ascii (by simpa using ha)]; simp [T]
  rw [e]; exact h _ _ (hs.toks _)
theorem c_upper {x : List Nat} {t : Tok} (hl : x.length < 2 ^ 20) (ha : ∀ c ∈ x, c < 128) (h : ∀ t, St w L b fr nw (Q (.str (T (x.map up1)) t))) : St w L b fr nw (wpAny (model prog w) A (call (.builtin "str.upper") [.str (T x) t]) Q E) := fun s hs => SCL.upper (by rw [T_len]; omega) fun _ => by
  have e : Txt.upper (T x) = T (x.map up1) := by rw [upper_ascii (by simpa using ha)]; simp [T]
  rw [e]; exact h _ _ (hs.toks _)

/-! ## methods -/
/-- a method's call, by what was found -/
def MC (prog : Program) (w : World) (A : Around) (pos : Pos) (args : List Expr) (env : Env) (Q : Value → Shared → Prop) (E : Value → Shared → Prop) : Value × List Value → Shared → Prop
  | (f, first) => wpAny (model prog w) A (callWith pos f first (backTo pos (starEach args env)) []) Q E
theorem r_mc {pos : Pos} {args : List Expr} {f : Value} {first : List Value} (h : St w L b fr nw (wpAny (model prog w) A (callWith pos f first (backTo pos (starEach args env)) []) Q E)) : St w L b fr nw (MC prog w A pos args env Q E (f, first)) := h
theorem r_Meth {o : Expr} {name : Str} {apos pos : Pos} {args : List Expr} {pl : Sem Bool} (h : St w L b fr nw (wpAny (model prog w) A (eval o env) (fun ov => wpAny (model prog w) A (getMethod ov name pl) (MC prog w A pos args env Q E) E) E))
    (he : eval (.Call (.Attribute o name apos) args [] pos) env = (do
      let ov ← eval o env
      standAt apos.atName
      let (f, first) ← holding [ov] (getMethod ov name pl)
      callWith pos f first (backTo pos (starEach args env)) []) := by with_unfolding_all rfl) : St w L b fr nw (wpAny (model prog w) A (eval (.Call (.Attribute o name apos) args [] pos) env) Q E) := fun s hs => MethodCall_ (h s hs) he
theorem m_lower {x : Str} {t : Tok} {pl : Sem Bool} {Q : Value × List Value → Shared → Prop} (h : St w L b fr nw (Q (.builtin "str.lower", [.str x t]))) : St w L b fr nw (wpAny (model prog w) A (getMethod (.str x t) (Str.ofString "lower") pl) Q E) := fun s hs => GM.lower (h s hs)
theorem m_upper {x : Str} {t : Tok} {pl : Sem Bool} {Q : Value × List Value → Shared → Prop} (h : St w L b fr nw (Q (.builtin "str.upper", [.str x t]))) : St w L b fr nw (wpAny (model prog w) A (getMethod (.str x t) (Str.ofString "upper") pl) Q E) := fun s hs => GM.upper (h s hs)
theorem m_join {x : Str} {t : Tok} {pl : Sem Bool} {Q : Value × List Value → Shared → Prop} (h : St w L b fr nw (Q (.builtin "str.join", [.str x t]))) : St w L b fr nw (wpAny (model prog w) A (getMethod (.str x t) (Str.ofString "join") pl) Q E) := fun s hs => GM.join (h s hs)
theorem r_cw_meth0 {pos : Pos} {id : String} {first : List Value} (h : St w L b fr nw (wpAny (model prog w) A (call (.builtin id) first) Q E)) : St w L b fr nw (wpAny (model prog w) A (callWith pos (.builtin id) first (backTo pos (starEach [] env)) []) Q E) := fun s hs => callWith_method0 (h s hs)
theorem r_cw_meth {pos : Pos} {id : String} {first : List Value} {e : Expr} {rest : List Expr} (h : St w L b fr nw (wpAny (model prog w) A (spliced (backTo pos (starEach (e :: rest) env))) (fun vs => wpAny (model prog w) A (call (.builtin id) (first ++ vs)) Q E) E))
    (he : starEach (e :: rest) env = (false, eval e env) :: starEach rest env := by with_unfolding_all rfl) (hplain : (backTo pos (starEach rest env)).any (·.1) = false := by with_unfolding_all rfl) : St w L b fr nw (wpAny (model prog w) A (callWith pos (.builtin id) first (backTo pos (starEach (e :: rest) env)) []) Q E) := fun s hs => callWith_method1 (h s hs) he hplain
end
end Mine
end

-- C4
section
open PySem PySem.W PySem.Calls PyProof.Rows PySem.Builtin PySem.Builtin.Str
set_option Elab.async false
set_option linter.unusedVariables false
set_option maxRecDepth 20000
namespace Mine

/-! ## slices, plain -/
def clipLo (lo : Option Int) (n : Nat) : Nat := match lo with
  | none => 0
  | some i => (max 0 (min (if i < 0 then i + n else i) n)).toNat
def clipHi (hi : Option Int) (n : Nat) : Nat := match hi with
  | none => n
  | some i => (max 0 (min (if i < 0 then i + n else i) n)).toNat
def pySl {α : Type} (l : List α) (lo hi : Option Int) : List α := (l.take (clipHi hi l.length)).drop (clipLo lo l.length)
theorem clipLo_le (lo : Option Int) (n : Nat) : clipLo lo n ≤ n := by unfold clipLo; split <;> (try split) <;> omega
theorem clipHi_le (hi : Option Int) (n : Nat) : clipHi hi n ≤ n := by unfold clipHi; split <;> (try split) <;> omega
theorem pySl_le {α : Type} (l : List α) (lo hi : Option Int) : (pySl l lo hi).length ≤ l.length := by unfold pySl; simp; omega

theorem range_pick {α : Type} (l : List α) (a h : Nat) (hh : h ≤ l.length) : ((List.range (h - a)).map (a + ·)).filterMap (l[·]?) = (l.take h).drop a := by
  apply List.ext_getElem?
  intro i
  have key : ∀ (n : Nat), a + n ≤ l.length → ((List.range n).map (a + ·)).filterMap (l[·]?) = (l.drop a).take n := by
    intro n
    induction n with
    | zero => intro _; simp
    | succ n ih =>
      intro hn
      rw [List.range_succ, List.map_append, List.filterMap_append, ih (by omega)]
      rw [List.take_add_one]
      congr 1
      simp only [List.map_cons, List.map_nil, List.getElem?_drop]
      have hlt : a + n < l.length := by omega
      simp [List.getElem?_eq_getElem hlt]
  by_cases hah : a ≤ h
  · rw [key (h - a) (by omega), ← List.drop_take]
  · have e : h - a = 0 := by omega
    rw [e]; simp; omega
theorem sliceRange_nat {A H : Int} {a h : Nat} (ha : A = a) (hh : H = h) : sliceRange A H 1 = (List.range (h - a)).map (a + ·) := by
  subst ha hh
  unfold sliceRange
  simp only [show (1 : Int) > 0 by decide, if_true]
  have hc : (if (a : Int) < h then ((h : Int) - a + 1 - 1) / 1 else 0).toNat = h - a := by
    split <;> simp <;> omega
  rw [hc]
  apply List.map_congr_left
  intro k _
  omega
theorem slice_T (x : Str) (lo hi : Option Int) : Txt.slice x lo hi = T (pySl x.cps.toList lo hi) := by
  have hn : x.length = x.cps.toList.length := by simp [Str.length]
  have e0 : strSliceIndices lo hi 1 x.length = (List.range (clipHi hi x.length - clipLo lo x.length)).map (clipLo lo x.length + ·) := by
      unfold strSliceIndices
      refine sliceRange_nat ?_ ?_
      · cases lo <;> simp [clipLo] <;> omega
      · cases hi <;> simp [clipHi] <;> omega
  have key : (strSliceIndices lo hi 1 x.length).filterMap (x.cps[·]?) = pySl x.cps.toList lo hi := by
    have e : strSliceIndices lo hi 1 x.length = (List.range (clipHi hi x.length - clipLo lo x.length)).map (clipLo lo x.length + ·) := by
      unfold strSliceIndices
      refine sliceRange_nat ?_ ?_
      · cases lo <;> simp [clipLo] <;> omega
      · cases hi <;> simp [clipHi] <;> omega
    rw [e]
    have := range_pick x.cps.toList (clipLo lo x.length) (clipHi hi x.length) (by rw [← hn]; exact clipHi_le _ _)
    unfold pySl
    rw [← hn]
    rw [← this]
    congr 1
    funext i
    simp
  unfold Txt.slice
  split
  · rename_i h
    simp only [beq_self_eq_true, Bool.true_and, beq_iff_eq] at h
    have hlen : (pySl x.cps.toList lo hi).length = x.cps.toList.length := by
      have h1 : (strSliceIndices lo hi 1 x.length).length = x.length := h
      have e : (strSliceIndices lo hi 1 x.length).length = clipHi hi x.length - clipLo lo x.length := by
        rw [e0]; simp
      have h2 := clipHi_le hi x.length
      have h3 := clipLo_le lo x.length
      have hn2 : x.length = x.cps.size := rfl
      unfold pySl
      rw [← hn]
      simp
      omega
    have : pySl x.cps.toList lo hi = x.cps.toList := by
      have hs : (pySl x.cps.toList lo hi).Sublist x.cps.toList := (List.drop_sublist _ _).trans (List.take_sublist _ _)
      exact hs.eq_of_length hlen
    rw [this, T_eta]
  · rw [key]

theorem slicePick_eq (vs : List Value) (lo hi : Option Int) : slicePick vs.toArray lo hi none = (pySl vs lo hi).toArray := by
  unfold slicePick
  congr 1
  have hsz : vs.toArray.size = vs.length := by simp
  rw [hsz]
  have e : sliceRange (sliceBounds lo hi none vs.length).1 (sliceBounds lo hi none vs.length).2.1 (sliceBounds lo hi none vs.length).2.2 = (List.range (clipHi hi vs.length - clipLo lo vs.length)).map (clipLo lo vs.length + ·) := by
    unfold sliceBounds
    refine sliceRange_nat ?_ ?_
    · cases lo <;> simp [clipLo] <;> omega
    · cases hi <;> simp [clipHi] <;> omega
  rw [e]
  have := range_pick vs (clipLo lo vs.length) (clipHi hi vs.length) (clipHi_le _ _)
  unfold pySl
  rw [← this]
  congr 1
  funext i
  simp

section
variable {prog : Program} {w : World} {A : Around} {E : Value → Shared → Prop} {env : Env} {ns : List (Str × NameKind)} {b : Shared} {fr fr' : List (Str × Option Value)} {nw nw' : List (Addr × D)} {Q : Value → Shared → Prop} {L : Addr} {t u : Tok}

/-- a slice's object -/
abbrev slO (vl vu : Value) : Obj := { cls := .type "slice", data := .fields #[vl, vu, .none] }
def SlK (vl vu : Value) (Q : Value → Shared → Prop) (s : Shared) : Prop := Q (.ref s.heap.objs.size) { s with heap := s.heap.push (slO vl vu) }
theorem r_Slice {lower upper : Option Expr} {p : Pos} (h : St w L b fr nw (wpAny (model prog w) A (evalPart lower env) (fun l => wpAny (model prog w) A (evalPart upper env) (fun u => SlK l u Q) E) E)) : St w L b fr nw (wpAny (model prog w) A (eval (.Slice lower upper none p) env) Q E) := fun s hs =>
  wpAny_Slice (wpAny_mono (h s hs) (fun l s₁ h₁ => wpAny_mono h₁ (fun u s₂ h₂ => wpAny_evalPart_none h₂) fun _ _ x => x) fun _ _ x => x)
theorem r_part {e : Expr} (h : St w L b fr nw (wpAny (model prog w) A (eval e env) Q E)) : St w L b fr nw (wpAny (model prog w) A (evalPart (some e) env) Q E) := h
theorem r_part0 (h : St w L b fr nw (Q .none)) : St w L b fr nw (wpAny (model prog w) A (evalPart none env) Q E) := fun s hs => wpAny_evalPart_none (h s hs)
theorem r_SlK {vl vu : Value} (h : ∀ a, St w L b fr ((a, .obj (slO vl vu)) :: nw) (Q (.ref a))) : St w L b fr nw (SlK vl vu Q) := fun s hs => h _ _ (hs.push (o := slO vl vu) (d := .obj (slO vl vu)) ⟨rfl, rfl⟩ s.toks)
/-- a slice of a text; the slice is dropped -/
theorem x_str_slice {x : List Nat} {a : Addr} {l v : Option (Int × Tok)} {value slice : Expr} (hx : x.length < 2 ^ 20) (h : ∀ t, St w L b fr nw (Q (.str (T (pySl x (l.map (·.1)) (v.map (·.1)))) t)))
    (hs : subscripted slice false (.str (T x) t) (.ref a) = operate [.ref a, .str (T x) t] (getItem (.str (T x) t) (.ref a)) := by with_unfolding_all rfl) :
    St w L b fr ((a, .obj (slO (partValue l) (partValue v))) :: nw) (wpAny (model prog w) A (subscriptTail value slice (.str (T x) t) (.ref a)) Q E) := fun s h' => by
  obtain ⟨o, ho, rfl, _⟩ := h'.get Has.here
  have h0 : At w L b fr nw s := h'.sub (fun p hp => hp) h'.ndf (fun p hp => .tail _ hp) (by have := h'.ndn; simp only [List.map_cons, List.nodup_cons] at this; exact this.2)
  refine tail_any (typeIs_str s (T x) t) F.slot_str_getitem.lookup ?_ hs
  refine wpAny_getItem_str_slice (l := l) (u := v) (st := none) ⟨_, ho, rfl, rfl⟩ rfl ?_
  have e := slice_T (T x) (l.map (·.1)) (v.map (·.1))
  unfold Txt.slice at e
  unfold sliceMade slicePicked
  simp only [Option.map_none, Option.getD_none]
  split
  · rename_i hc
    rw [if_pos hc] at e
    show Q (.str (T x) t) s
    rw [show T x = T (pySl (T x).cps.toList (l.map (·.1)) (v.map (·.1))) from e]
    exact h _ _ h0
  · rename_i hc
    rw [if_neg hc] at e
    show _ ∧ Q _ _
    have e2 : T (pySl (T x).cps.toList (l.map (·.1)) (v.map (·.1))) = T (pySl x (l.map (·.1)) (v.map (·.1))) := rfl
    rw [e, e2]
    refine ⟨?_, h _ _ (h0.toks _)⟩
    rw [T_len, sizeLine_eq]
    have := pySl_le x (l.map (·.1)) (v.map (·.1))
    omega
end
end Mine
end

-- C5
section
open PySem PySem.W PySem.Calls PyProof.Rows PySem.Builtin PySem.Builtin.Str
set_option Elab.async false
set_option linter.unusedVariables false
set_option maxRecDepth 20000
namespace Mine

theorem item_T {l : List Nat} {i : Int} {j : Nat} {c : Nat} (hj : (if i < 0 then i + l.length else i) = (j : Int)) (hc : l[j]? = some c) : Txt.item (T l) i = T [c] := by
  have hlt : j < l.length := (List.getElem?_eq_some_iff.mp hc).1
  unfold Txt.item Txt.charAt
  have e : seqIndex? i (T l).length = some j := by
    unfold seqIndex?
    rw [T_len, hj]
    simp
    omega
  rw [e]
  simp [hc]

section
variable {prog : Program} {w : World} {A : Around} {E : Value → Shared → Prop} {env : Env} {ns : List (Str × NameKind)} {b : Shared} {fr fr' : List (Str × Option Value)} {nw nw' : List (Addr × D)} {Q : Value → Shared → Prop} {L : Addr} {t u : Tok}

/-- a sign of a text -/
theorem x_str_item {l : List Nat} {i : Int} {j c : Nat} {value slice : Expr} (hl : l.length < 2 ^ 20) (hj : (if i < 0 then i + l.length else i) = (j : Int)) (hc : l[j]? = some c) (h : ∀ t, St w L b fr nw (Q (.str (T [c]) t)))
    (hs : subscripted slice false (.str (T l) t) (.int i u) = operate [.str (T l) t, .int i u] (getItem (.str (T l) t) (.int i u)) := by with_unfolding_all rfl)
    (ht : ∀ r, letTemporaryGo value (.str (T l) t) r = pure () := by intro _; with_unfolding_all rfl) :
    St w L b fr nw (wpAny (model prog w) A (subscriptTail value slice (.str (T l) t) (.int i u)) Q E) := fun s h' => by
  have hlt : j < l.length := (List.getElem?_eq_some_iff.mp hc).1
  have hlen := T_len l
  refine item_str ?_ ?_ ?_ (fun _ => ?_) hs ht
  · unfold fitsSsize; simp; split at hj <;> omega
  · rw [hlen]; split at hj <;> omega
  · rw [hlen]; split at hj <;> omega
  · rw [item_T hj hc]; exact h _ _ (h'.toks _)

/-! ## lists -/
/-- a list that every state shows -/
def SeesL (w : World) (L : Addr) (b : Shared) (fr : List (Str × Option Value)) (nw : List (Addr × D)) (a : Addr) (vs : List Value) : Prop := ∀ s, At w L b fr nw s → s.heap.IsList a vs.toArray
def SeesT (w : World) (L : Addr) (b : Shared) (fr : List (Str × Option Value)) (nw : List (Addr × D)) (a : Addr) (vs : List Value) : Prop := ∀ s, At w L b fr nw s → s.heap.IsTuple a vs.toArray
theorem seesL_nw {a : Addr} {vs : List Value} (h : Has nw a (.list vs)) : SeesL w L b fr nw a vs := fun s hs => by
  obtain ⟨o, ho, n, rfl⟩ := hs.get h
  exact ⟨_, ho, rfl, n, rfl⟩
theorem seesL_b {a : Addr} {vs : List Value} (h : b.heap.IsList a vs.toArray) : SeesL w L b fr nw a vs := fun s hs => h.at fun o e => hs.keep _ _ e
theorem seesT_nw {a : Addr} {vs : List Value} (h : Has nw a (.tup vs)) : SeesT w L b fr nw a vs := fun s hs => by
  obtain ⟨o, ho, n, rfl⟩ := hs.get h
  exact ⟨_, ho, rfl, n, rfl⟩
theorem seesT_b {a : Addr} {vs : List Value} (h : b.heap.IsTuple a vs.toArray) : SeesT w L b fr nw a vs := fun s hs => h.at fun o e => hs.keep _ _ e

theorem c_len_list {a : Addr} {vs : List Value} (hl : SeesL w L b fr nw a vs) (hn : vs.length < 2 ^ 30) (h : ∀ t, St w L b fr nw (Q (.int vs.length t))) : St w L b fr nw (wpAny (model prog w) A (call (.builtin "len") [.ref a]) Q E) := fun s hs => call_len_list (hl s hs) (by simp; omega) (by
  have e : (vs.toArray.size : Int) = vs.length := by simp
  rw [e]; exact h _ _ (hs.toks _))
theorem t_list {a : Addr} {vs : List Value} {Q : Bool → Shared → Prop} (hl : SeesL w L b fr nw a vs) (hn : vs.length < 2 ^ 30) (h : St w L b fr nw (Q (!vs.isEmpty))) : St w L b fr nw (wpAny (model prog w) A (truthy (.ref a)) Q E) := fun s hs => wpAny_truthy_list (hl s hs) (by simp; omega) (by
  have e : (vs.toArray.isEmpty) = vs.isEmpty := by cases vs <;> simp
  rw [e]; exact h _ (hs.toks _))
theorem x_list_item {a : Addr} {vs : List Value} {i : Int} {v : Value} {value slice : Expr} (hl : SeesL w L b fr nw a vs) (h0 : 0 ≤ i) (h1 : i < 2 ^ 62) (hv : vs[i.toNat]? = some v) (h : St w L b fr nw (Q v))
    (hs : subscripted slice false (.ref a) (.int i u) = operate [.ref a, .int i u] (getItem (.ref a) (.int i u)) := by with_unfolding_all rfl) :
    St w L b fr nw (wpAny (model prog w) A (subscriptTail value slice (.ref a) (.int i u)) Q E) := fun s hs' => tail_any (hl s hs').typeIs slot_list_getitem.lookup (wpAny_getItem_list (hl s hs') h0 (by omega) (by simpa using hv) (h s hs')) hs
theorem x_tup_item {a : Addr} {vs : List Value} {i : Int} {v : Value} {value slice : Expr} (hl : SeesT w L b fr nw a vs) (h0 : 0 ≤ i) (h1 : i < 2 ^ 62) (hv : vs[i.toNat]? = some v) (h : St w L b fr nw (Q v))
    (hs : subscripted slice false (.ref a) (.int i u) = operate [.ref a, .int i u] (getItem (.ref a) (.int i u)) := by with_unfolding_all rfl) :
    St w L b fr nw (wpAny (model prog w) A (subscriptTail value slice (.ref a) (.int i u)) Q E) := fun s hs' => by
  have hlt : i.toNat < vs.length := (List.getElem?_eq_some_iff.mp hv).1
  have e1 : -(2 ^ 63) ≤ i := by omega
  have e2 : i < 2 ^ 63 := by omega
  have e3 : seqIndex? i vs.length = some i.toNat := by
    have hneg : ¬ i < 0 := by omega
    have hlt2 : i < vs.length := by omega
    unfold seqIndex?; simp [hneg, h0, hlt2]
  exact item_tupleT (hl s hs') e1 e2 e3 hv (h s hs') hs
theorem r_setItem {a : Addr} {vs : List Value} {i : Int} {v : Value} {Q : Unit → Shared → Prop} (hl : Has nw a (.list vs)) (h0 : 0 ≤ i) (h1 : i < vs.length) (hn : vs.length < 2 ^ 30) (hp : Put nw a (.list (vs.set i.toNat v)) nw') (h : St w L b fr nw' (Q ())) :
    St w L b fr nw (wpAny (model prog w) A (setItem (.ref a) (.int i t) v) Q E) := fun s hs => by
  obtain ⟨o, ho, n, rfl⟩ := hs.get hl
  have e : vs.toArray.setIfInBounds i.toNat v = (vs.set i.toNat v).toArray := by apply Array.toList_inj.mp; simp
  have q := PySem.IsL.update ho (·.setIfInBounds i.toNat v)
  rw [e] at q
  exact ki_setAt ho h0 (by omega) (by simp; omega) (h _ (hs.change (tk := s.toks) hp (Heap.SameBut.update ..) q ⟨_, rfl⟩))
theorem m_append {a : Addr} {vs : List Value} {pl : Sem Bool} {Q : Value × List Value → Shared → Prop} (hl : Has nw a (.list vs)) (h : St w L b fr nw (Q (.builtin "list.append", [.ref a]))) : St w L b fr nw (wpAny (model prog w) A (getMethod (.ref a) (Str.ofString "append") pl) Q E) := fun s hs => by
  obtain ⟨o, ho, n, rfl⟩ := hs.get hl
  exact Calls.getMethod_list_append ho rfl rfl (h s hs)
theorem m_pop {a : Addr} {vs : List Value} {pl : Sem Bool} {Q : Value × List Value → Shared → Prop} (hl : Has nw a (.list vs)) (h : St w L b fr nw (Q (.builtin "list.pop", [.ref a]))) : St w L b fr nw (wpAny (model prog w) A (getMethod (.ref a) (Str.ofString "pop") pl) Q E) := fun s hs => by
  obtain ⟨o, ho, n, rfl⟩ := hs.get hl
  exact getMethod_builtin ⟨_, ho, rfl⟩ PySem.F.plainAttrs_list PySem.F.slot_list_pop PySem.F.type_list_pop (fun a e => by cases e; exact ⟨_, ho, rfl⟩) (h s hs)
theorem c_append {a : Addr} {vs : List Value} {v : Value} (hl : Has nw a (.list vs)) (hn : vs.length < 2 ^ 20) (hp : Put nw a (.list (vs ++ [v])) nw') (h : St w L b fr nw' (Q .none)) : St w L b fr nw (wpAny (model prog w) A (call (.builtin "list.append") [.ref a, v]) Q E) := fun s hs => by
  obtain ⟨o, ho, n, rfl⟩ := hs.get hl
  refine append_at ho (fun h' hsb ho' => h _ (hs.change (tk := s.toks) hp hsb ho' ⟨n + 1, ?_⟩)) (by rw [List.size_toArray, sizeLine_eq]; omega)
  simp
theorem c_pop {a : Addr} {vs : List Value} {v : Value} (hl : Has nw a (.list (vs ++ [v]))) (hn : vs.length < 2 ^ 20) (hp : Put nw a (.list vs) nw') (h : St w L b fr nw' (Q v)) : St w L b fr nw (wpAny (model prog w) A (call (.builtin "list.pop") [.ref a]) Q E) := fun s hs => by
  obtain ⟨o, ho, n, rfl⟩ := hs.get hl
  have hz' : (vs ++ [v]).toArray.size ≤ sizeLine := by rw [List.size_toArray, List.length_append, sizeLine_eq]; simp; omega
  have hk : (vs ++ [v]).toArray.size - 1 = vs.length := by rw [List.size_toArray, List.length_append]; rfl
  have hy : (vs ++ [v]).toArray[(vs ++ [v]).toArray.size - 1]? = some v := by rw [hk]; simp
  have e : (vs ++ [v]).toArray.eraseIdxIfInBounds ((vs ++ [v]).toArray.size - 1) = vs.toArray := by rw [hk, kl_erase, List.append_nil]
  have q := PySem.IsL.update ho (fun xs => xs.eraseIdxIfInBounds ((vs ++ [v]).toArray.size - 1))
  rw [e] at q
  exact call_meets PySem.F.slot_list_pop ⟨_, ho, rfl⟩ PySem.F.entry_list_pop (PySem.F.args_list_pop_1 _) (PySem.MeetsSeq.list_pop_last a _ n v hy hz') ⟨ho, h _ (hs.change (tk := s.toks) hp (Heap.SameBut.update ..) q ⟨_, rfl⟩)⟩
theorem r_List {elts : List Expr} {pos : Pos} (h : St w L b fr nw (wpAny (model prog w) A (spliced (backTo pos (starEach elts env))) (fun vs => wpAny (model prog w) A (newList vs) Q E) E)) : St w L b fr nw (wpAny (model prog w) A (eval (.List elts pos) env) Q E) := fun s hs => List_ (h s hs)
theorem r_Tuple {elts : List Expr} {k : Nat} {pos : Pos} (h : St w L b fr nw (wpAny (model prog w) A (spliced (backTo pos (starEach elts env))) (fun vs => wpAny (model prog w) A (newTuple vs) Q E) E)) : St w L b fr nw (wpAny (model prog w) A (eval (.Tuple elts k pos) env) Q E) := fun s hs => Tuple_ (h s hs)
theorem r_newList {vs : List Value} (hn : vs.length < 2 ^ 20) (h : ∀ a, St w L b fr ((a, .list vs) :: nw) (Q (.ref a))) : St w L b fr nw (wpAny (model prog w) A (newList vs) Q E) := fun s hs => wpAny_newList (h _ _ (hs.push (d := .list vs) ⟨0, rfl⟩ s.toks)) (by rw [sizeLine_eq]; omega)
theorem r_newTuple {vs : List Value} (hn : vs.length < 2 ^ 20) (h : ∀ a, St w L b fr ((a, .tup vs) :: nw) (Q (.ref a))) : St w L b fr nw (wpAny (model prog w) A (newTuple vs) Q E) := fun s hs => wpAny_newTuple (h _ _ (hs.push (d := .tup vs) ⟨0, rfl⟩ s.toks)) (by rw [sizeLine_eq]; omega)
/-- the ledger's head is forgotten -/
theorem St.drop {p : Addr × D} {R : Shared → Prop} (h : St w L b fr nw R) : St w L b fr (p :: nw) R := fun s h' => h s (h'.sub (fun p hp => hp) h'.ndf (fun p hp => .tail _ hp) (by have := h'.ndn; simp only [List.map_cons, List.nodup_cons] at this; exact this.2))

/-! ## tuples taken apart -/
theorem a_Tup {elts : List Expr} {k : Nat} {pos : Pos} {a : Addr} {vs : List Value} {Q : Unit → Shared → Prop} (hh : A.handled = none) (ht : SeesT w L b fr nw a vs) (hn : (assignEach elts env).length = vs.length) (hstar : (assignEach elts env).findIdx? (·.1) = none)
    (h : St w L b fr nw (wpAny (model prog w) A (assignInOrder ((assignEach elts env).map (·.2)) vs) Q E)) : St w L b fr nw (wpAny (model prog w) A (assign (.Tuple elts k pos) env (.ref a)) Q E) := fun s hs => by
  refine wpAny_assign_Tuple hh (ht s hs) (by simpa using hn) hstar fun h' he => ?_
  have := h _ (hs.grow (h' := h') (tk := s.toks) fun x o e => he x o (Nat.ne_of_lt (Heap.lt_size e)) e)
  simpa using this
theorem a_nil {Q : Unit → Shared → Prop} (h : St w L b fr nw (Q ())) : St w L b fr nw (wpAny (model prog w) A (assignInOrder [] []) Q E) := fun s hs => wpAny_assignInOrder_none (h s hs)
theorem a_cons {x : Str} {px : Pos} {ts : List (Value → Sem Unit)} {v : Value} {vs : List Value} {Q : Unit → Shared → Prop} (h : St w L b fr nw (wpAny (model prog w) A (storeName env x v) (fun _ => wpAny (model prog w) A (assignInOrder ts vs) Q E) E)) : St w L b fr nw (wpAny (model prog w) A (assignInOrder (assign (.Name x px) env :: ts) (v :: vs)) Q E) := fun s hs => wpAny_assignInOrder_more (wpAny_assign_Name (h s hs))
theorem a_Name {x : Str} {px : Pos} {v : Value} {Q : Unit → Shared → Prop} (h : St w L b fr nw (wpAny (model prog w) A (storeName env x v) Q E)) : St w L b fr nw (wpAny (model prog w) A (assign (.Name x px) env v) Q E) := fun s hs => wpAny_assign_Name (h s hs)

/-! ## min, range -/
theorem c_min2 {x y : Int} (hh : A.handled = none) (h : ∀ t, St w L b fr nw (Q (.int (min x y) t))) : St w L b fr nw (wpAny (model prog w) A (call (.builtin "min") [.int x t, .int y u]) Q E) := fun s hs => min_two_ints hh fun h' tk k => by
  by_cases c : y < x
  · rw [if_pos c]; have e : min x y = y := by omega
    rw [← e]; exact h _ _ (hs.grow k)
  · rw [if_neg c]; have e : min x y = x := by omega
    rw [← e]; exact h _ _ (hs.grow k)
theorem c_min3 {x y z : Int} {v : Tok} (hh : A.handled = none) (h : ∀ t, St w L b fr nw (Q (.int (min (min x y) z) t))) : St w L b fr nw (wpAny (model prog w) A (call (.builtin "min") [.int x t, .int y u, .int z v]) Q E) := fun s hs => min_three_ints hh fun h' tk k => by
  have key : ∀ n, n = min (min x y) z → ∀ t, Q (.int n t) { s with heap := h', toks := tk } := fun n e t => e ▸ h _ _ (hs.grow k)
  by_cases c : y < x <;> by_cases d : z < y <;> by_cases e : z < x <;> simp only [c, d, e, if_true, if_false] <;> exact key _ (by omega) _
abbrev rgO (a c d : Int) (t u v : Tok) : Obj := { cls := .type "range", data := .fields #[.int a t, .int c u, .int d v] }
theorem c_range1 {n : Int} (h : ∀ a t0 t1, St w L b fr ((a, .obj (rgO 0 n 1 t0 t t1)) :: nw) (Q (.ref a))) : St w L b fr nw (wpAny (model prog w) A (call (.type "range") [.int n t]) Q E) := fun s hs => call_range_1 (h _ _ _ _ (hs.push (o := rgO 0 n 1 _ t _) (d := .obj (rgO 0 n 1 _ t _)) ⟨rfl, rfl⟩ _))
theorem c_range3 {n m d : Int} {v : Tok} (hd : 0 < d ∧ d < 2 ^ 30) (hn : 0 ≤ n ∧ n < 2 ^ 30) (hm : 0 ≤ m ∧ m < 2 ^ 30) (h : ∀ a, St w L b fr ((a, .obj (rgO n m d t u v)) :: nw) (Q (.ref a))) : St w L b fr nw (wpAny (model prog w) A (call (.type "range") [.int n t, .int m u, .int d v]) Q E) := fun s hs =>
  call_range_3 (by omega) (h _ _ (hs.push (o := rgO n m d t u v) (d := .obj (rgO n m d t u v)) ⟨rfl, rfl⟩ _)) (Or.inl (PyProof.noPylong_small (by omega)))
end
end Mine
end

-- C6
section
open PySem PySem.W PySem.Calls PyProof.Rows PySem.Builtin PySem.Builtin.Str
set_option Elab.async false
set_option linter.unusedVariables false
set_option maxRecDepth 20000
namespace Mine

abbrev FF : Value → Shared → Prop := fun _ _ => False
abbrev Frm := List (Str × Option Value)
abbrev Led := List (Addr × D)

/-- the end of a turn of a while -/
def WK (w : World) (L : Addr) (b : Shared) (J : Nat → Frm → Led → Prop) (n : Nat) (Q : Flow → Shared → Prop) : Flow → Shared → Prop
  | .next, s | .cont, s => ∃ m fr nw, m < n ∧ J m fr nw ∧ At w L b fr nw s
  | .brk, s => Q .next s
  | .ret v, s => Q (.ret v) s
/-- the end of a turn of a for -/
def LK (w : World) (L : Addr) (b : Shared) (J : Frm → Led → Prop) (Q : Flow → Shared → Prop) : Flow → Shared → Prop
  | .next, s | .cont, s => ∃ fr nw, J fr nw ∧ At w L b fr nw s
  | .brk, s => Q .next s
  | .ret v, s => Q (.ret v) s

section
variable {prog : Program} {w : World} {A : Around} {E : Value → Shared → Prop} {env : Env} {ns : List (Str × NameKind)} {b : Shared} {fr fr' : List (Str × Option Value)} {nw nw' : List (Addr × D)} {QF : Flow → Shared → Prop} {L : Addr} {t u : Tok}

theorem wk_next {J : Nat → Frm → Led → Prop} {n : Nat} (m : Nat) (h : J m fr nw) (hm : m < n) : St w L b fr nw (WK w L b J n QF .next) := fun s hs => ⟨m, fr, nw, hm, h, hs⟩
theorem wk_cont {J : Nat → Frm → Led → Prop} {n : Nat} (m : Nat) (h : J m fr nw) (hm : m < n) : St w L b fr nw (WK w L b J n QF .cont) := fun s hs => ⟨m, fr, nw, hm, h, hs⟩
theorem wk_brk {b' : Shared} {J : Nat → Frm → Led → Prop} {n : Nat} (h : St w L b' fr nw (QF .next)) : St w L b' fr nw (WK w L b J n QF .brk) := h
theorem wk_ret {b' : Shared} {J : Nat → Frm → Led → Prop} {n : Nat} {v : Value} (h : St w L b' fr nw (QF (.ret v))) : St w L b' fr nw (WK w L b J n QF (.ret v)) := h
theorem lk_next {J : Frm → Led → Prop} (h : J fr nw) : St w L b fr nw (LK w L b J QF .next) := fun s hs => ⟨fr, nw, h, hs⟩
theorem lk_cont {J : Frm → Led → Prop} (h : J fr nw) : St w L b fr nw (LK w L b J QF .cont) := fun s hs => ⟨fr, nw, h, hs⟩
theorem lk_brk {b' : Shared} {J : Frm → Led → Prop} (h : St w L b' fr nw (QF .next)) : St w L b' fr nw (LK w L b J QF .brk) := h
theorem lk_ret {b' : Shared} {J : Frm → Led → Prop} {v : Value} (h : St w L b' fr nw (QF (.ret v))) : St w L b' fr nw (LK w L b J QF (.ret v)) := h

theorem s_While {test : Expr} {body orelse : List Stmt} {pos : Pos} (J : Nat → Frm → Led → Prop) (n : Nat) (h0 : J n fr nw)
    (turn : ∀ n fr nw, J n fr nw → St w L b fr nw (wpAny (model prog w) A (isTrue test env (eval test env)) (fun c s₂ => if c then wpAny (model prog w) A (execs body env) (WK w L b J n QF) FF s₂ else wpAny (model prog w) A (execs orelse env) QF FF s₂) FF)) :
    St w L b fr nw (wpAny (model prog w) A (exec (.While test body orelse pos) env) QF E) := fun s hs => by
  refine wpAny_While (codeAny_whileLoop (fun n s => ∃ fr nw, J n fr nw ∧ At w L b fr nw s) ?_ n ⟨fr, nw, h0, hs⟩)
  rintro n s ⟨fr, nw, hJ, hs⟩
  refine wpAny_mono (turn n fr nw hJ s hs) (fun c s₂ h₂ => ?_) fun _ _ x => x.elim
  cases c with
  | true =>
    simp only [if_true] at h₂ ⊢
    refine wpAny_mono h₂ (fun f s₃ h₃ => ?_) fun _ _ x => x.elim
    cases f with
    | next => obtain ⟨m, fr, nw, hm, hJ, hs⟩ := h₃; exact ⟨m, hm, fr, nw, hJ, hs⟩
    | cont => obtain ⟨m, fr, nw, hm, hJ, hs⟩ := h₃; exact ⟨m, hm, fr, nw, hJ, hs⟩
    | brk => exact h₃
    | ret v => exact h₃
  | false =>
    simp only [Bool.false_eq_true, if_false] at h₂ ⊢
    exact wpAny_mono h₂ (fun f s₃ h₃ => h₃) fun _ _ x => x.elim

/-- ways meet behind a statement -/
def CK (w : World) (L : Addr) (b : Shared) (X : Frm → Led → Prop) (Q : Flow → Shared → Prop) : Flow → Shared → Prop
  | .next, s => ∃ fr nw b', X fr nw ∧ Keeps b b' ∧ At w L b' fr nw s
  | f, s => Q f s
theorem n_cut {st : Stmt} {rest : List Stmt} (X : Frm → Led → Prop) (h : St w L b fr nw (wpAny (model prog w) A (exec st env) (CK w L b X QF) E)) (k : ∀ fr nw, X fr nw → St w L b fr nw (wpAny (model prog w) A (execs rest env) QF E)) :
    St w L b fr nw (wpAny (model prog w) A (exec st env) (Nx prog w A rest env QF E) E) := fun s hs =>
  wpAny_mono (h s hs) (fun f s' h' => by
    cases f with
    | next => obtain ⟨fr, nw, b', hX, kb, h'⟩ := h'; exact k fr nw hX s' (h'.rebase kb hs.gd)
    | cont => exact h'
    | brk => exact h'
    | ret v => exact h') fun _ _ x => x
theorem ck_next {b' : Shared} {X : Frm → Led → Prop} (h : X fr nw) (kb : Keeps b b') : St w L b' fr nw (CK w L b X QF .next) := fun s hs => ⟨fr, nw, b', h, kb, hs⟩
theorem ck_ret {b' : Shared} {X : Frm → Led → Prop} {v : Value} (h : St w L b' fr nw (QF (.ret v))) : St w L b' fr nw (CK w L b X QF (.ret v)) := h
theorem ck_brk {b' : Shared} {X : Frm → Led → Prop} (h : St w L b' fr nw (QF .brk)) : St w L b' fr nw (CK w L b X QF .brk) := h
theorem ck_cont {b' : Shared} {X : Frm → Led → Prop} (h : St w L b' fr nw (QF .cont)) : St w L b' fr nw (CK w L b X QF .cont) := h

/-- what a for does with its iterator -/
def FL (prog : Program) (w : World) (A : Around) (target : Expr) (body orelse : List Stmt) (env : Env) (QF : Flow → Shared → Prop) (E : Value → Shared → Prop) (it : Value) (s : Shared) : Prop :=
  codeAny (model prog w) A (.forLoop target it body orelse env) (fun r s' => match r with | .ok f => QF f s' | .error e => cameBackBy (model prog w) A env E e s') s
theorem s_For {target iter : Expr} {body orelse : List Stmt} {pos : Pos} (h : St w L b fr nw (wpAny (model prog w) A (eval iter env) (fun x => wpAny (model prog w) A (pyIter x) (FL prog w A target body orelse env QF E) E) E))
    (hs : ∀ x, foldedSetIterable iter env x = pure x := by intro _; with_unfolding_all rfl) : St w L b fr nw (wpAny (model prog w) A (exec (.For target iter body orelse pos) env) QF E) := fun s hs' => wpAny_For (h s hs') hs

/-- all but some addresses, none of the assertion's, is kept -/
theorem At.off {s : Shared} {wr : List Addr} {h' : Heap} {tk : Nat} (h : At w L b fr nw s) (hL : L ∉ wr) (hn : ∀ p ∈ nw, p.1 ∉ wr) (hb : ∀ x ∈ wr, b.heap.get? x = none) (k : ∀ a o, a ∉ wr → s.heap.get? a = some o → h'.get? a = some o) : At w L b fr nw { s with heap := h', toks := tk } := by
  obtain ⟨m, hm, hf⟩ := h.ns
  refine ⟨h.gd, ⟨m, hm.at' fun o e => k _ _ hL e, hf⟩, fun a o e => k a o (fun q => ?_) (h.keep a o e), h.hL, h.ndf, fun p hp => ?_, h.ndn, h.eqv' _ _⟩
  · rw [hb a q] at e; cases e
  · obtain ⟨o, h1, h2⟩ := h.N p hp
    exact ⟨o, k _ _ (hn p hp) h1, h2⟩

theorem for_walk {target : Expr} {body orelse : List Stmt} {I : Addr} {fp wr : List Addr} {n : Nat} {P : Nat → Value → Prop} {WS : Nat → Heap → Prop} (W : Walks prog w A I fp wr n P WS) (alive : ∀ i h, WS i h → ∀ x ∈ fp, ∃ o, h.get? x = some o)
    (ht : ∀ (i : Nat) (v : Value) (s : Shared) (Q : Unit → Shared → Prop), WS (i + 1) s.heap → Q () s → wpAny (model prog w) A (letOwnedTupleGo target (.ref I) v) Q FF s)
    {s : Shared} (J : Nat → Frm → Led → Prop) (hs : At w L b fr nw s) (hst : WS 0 s.heap) (hL : L ∉ fp) (hnw : ∀ p ∈ nw, p.1 ∉ fp) (hwr : ∀ x ∈ wr, b.heap.get? x = none) (h0 : J 0 fr nw)
    (turn : ∀ i v fr nw b', i < n → P i v → J i fr nw → Keeps b b' → St w L b' fr nw (wpAny (model prog w) A (assign target env v) (fun _ => wpAny (model prog w) A (execs body env) (LK w L b' (J (i + 1)) QF) FF) FF))
    (done : ∀ fr nw, J n fr nw → St w L b fr nw (wpAny (model prog w) A (execs orelse env) QF FF)) : FL prog w A target body orelse env QF E (.ref I) s := by
  unfold FL
  refine codeAny_forLoop_any (fun k s' => ∃ i fr nw, k = n + 1 - i ∧ i ≤ n ∧ At w L b fr nw s' ∧ WS i s'.heap ∧ (∀ p ∈ nw, p.1 ∉ fp) ∧ J i fr nw) ?_ (n + 1) ⟨0, fr, nw, rfl, Nat.zero_le _, hs, hst, hnw, h0⟩
  rintro k s' ⟨i, fr, nw, rfl, hi, hs, hst, hnw, hJ⟩
  have hLw : L ∉ wr := fun q => hL (W.sub _ q)
  have hnww : ∀ p ∈ nw, p.1 ∉ wr := fun p hp q => hnw p hp (W.sub _ q)
  by_cases hlt : i < n
  · refine W.item i s' _ _ hlt hst fun v h' tk hP hst' hk => ?_
    have h1 : At w L b fr nw { s' with heap := h', toks := tk } := hs.off hLw hnww hwr hk
    refine wpAny_mono (ht i v _ (fun _ s₁' => s₁' = { s' with heap := h', toks := tk }) hst' rfl) (fun _ s₁' e => ?_) fun _ _ x => x.elim
    subst e
    obtain ⟨b', kb, hb', hfz⟩ := h1.freeze (nf := nw) (fun _ hp => hp) h1.ndn
    refine wpAny_mono (turn i v fr nw b' hlt hP hJ kb _ hb') (fun _ s₂ h₂ => wpAny_mono h₂ (fun f s₃ h₃ => ?_) fun _ _ x => x.elim) fun _ _ x => x.elim
    have fin : (∃ fr nw, J (i + 1) fr nw ∧ At w L b' fr nw s₃) → ∃ m, m < n + 1 - i ∧ ∃ i fr nw, m = n + 1 - i ∧ i ≤ n ∧ At w L b fr nw s₃ ∧ WS i s₃.heap ∧ (∀ p ∈ nw, p.1 ∉ fp) ∧ J i fr nw := by
      rintro ⟨fr', nw', hJ', hs'⟩
      have hfp : ∀ x ∈ fp, ∀ o, h'.get? x = some o → b'.heap.get? x = some o := fun x hx o e => hfz x o (fun q => hL (q ▸ hx)) (fun p hp q => hnw p hp (q ▸ hx)) e
      refine ⟨n + 1 - (i + 1), by omega, i + 1, fr', nw', rfl, hlt, hs'.rebase kb hs.gd, W.frame _ _ _ hst' fun x hx o e => hs'.keep _ _ (hfp x hx o e), fun p hp q => ?_, hJ'⟩
      obtain ⟨o, e⟩ := alive _ _ hst' p.1 q
      obtain ⟨_, _, _, _, e4⟩ := hs'.N p hp
      rw [hfp p.1 q o e] at e4; cases e4
    cases f with
    | next => exact fin h₃
    | cont => exact fin h₃
    | brk => exact h₃
    | ret v => exact h₃
  · have hin : i = n := by omega
    subst hin
    refine W.done s' _ _ hst fun h' tk hk => ?_
    exact wpAny_mono (done fr nw hJ _ (hs.off hLw hnww hwr hk)) (fun f s₃ h₃ => h₃) fun _ _ x => x.elim

/-- for x in range(n) -/
theorem f_range {x : Str} {px : Pos} {body orelse : List Stmt} {a : Addr} {n : Nat} {t0 t1 t2 : Tok} (J : Nat → Frm → Led → Prop) (hh : A.handled = none) (hn : n < 2 ^ 30) (h0 : J 0 fr nw)
    (turn : ∀ i fr nw b' t, i < n → J i fr nw → Keeps b b' → St w env.locals b' fr nw (wpAny (model prog w) A (storeName env x (.int (i : Int) t)) (fun _ => wpAny (model prog w) A (execs body env) (LK w env.locals b' (J (i + 1)) QF) FF) FF))
    (done : ∀ fr nw, J n fr nw → St w env.locals b fr nw (wpAny (model prog w) A (execs orelse env) QF FF)) :
    St w env.locals b fr ((a, .obj (rgO 0 (n : Int) 1 t0 t1 t2)) :: nw) (wpAny (model prog w) A (pyIter (.ref a)) (FL prog w A (.Name x px) body orelse env QF E) E) := fun s hs' => by
  obtain ⟨o, ho, rfl, _⟩ := hs'.get Has.here
  have hs : At w env.locals b fr nw s := hs'.sub (fun p hp => hp) hs'.ndf (fun p hp => .tail _ hp) (by have := hs'.ndn; simp only [List.map_cons, List.nodup_cons] at this; exact this.2)
  have hsz : Builtin.Range.rangeSize 0 (n : Int) 1 = n := by rw [rangeSize_one]; split <;> omega
  refine wpAny_pyIter_range (a := 0) (b := n) (c := 1) ho ?_ ?_
  · unfold Builtin.Range.small
    rw [hsz]
    simp [Builtin.Range.rangeFitsLong]
    omega
  · rw [hsz]
    have hfresh := fresh_size s.heap
    obtain ⟨m, hm, _⟩ := hs.ns
    obtain ⟨oL, _, _, hoL, _⟩ := hm
    refine for_walk (Walks.range hh s.heap.objs.size 0 1 n) (fun i h e x hx => by obtain rfl := List.mem_singleton.mp hx; exact ⟨_, e⟩) (fun _ _ _ _ _ hq => wpAny_pure hq) J (hs.grow (h' := s.heap.push _) (tk := s.toks) fun _ _ e => Heap.get?_push_of_some _ e) ?_ ?_ ?_ ?_ h0 ?_ done
    · show IsRangeIter _ _ _ _ _
      unfold IsRangeIter
      have := Heap.get?_push_size s.heap (o := { cls := .type "range_iterator", data := .fields #[rawInt 0, rawInt (n : Int), rawInt 1] }) rfl
      simpa using this
    · intro q
      rw [List.mem_singleton.mp q] at hoL
      exact nomatch hfresh.symm.trans hoL
    · intro p hp q
      obtain ⟨o', e, _⟩ := hs.N p hp
      rw [List.mem_singleton.mp q] at e
      exact nomatch hfresh.symm.trans e
    · intro x hx
      rw [List.mem_singleton.mp hx]
      cases q : b.heap.get? s.heap.objs.size with
      | none => rfl
      | some o' => exact nomatch hfresh.symm.trans (hs.keep _ _ q)
    · rintro i v fr nw b' hi ⟨t, rfl⟩ hJ kb
      have := turn i fr nw b' t hi hJ kb
      have e : (0 : Int) + (i : Int) * 1 = i := by omega
      rw [e]
      exact a_Name this

theorem ints_of : ∀ {vs : List Value} {ns : List Int}, vs.length = ns.length → (∀ (i : Nat) n, ns[i]? = some n → ∃ t, vs[i]? = some (Value.int n t)) → IntsAre vs ns
  | [], [], _, _ => .nil
  | [], _ :: _, h, _ => by simp at h
  | _ :: _, [], h, _ => by simp at h
  | v :: vs, n :: ns, h, hi => by
    obtain ⟨t, ht⟩ := hi 0 n rfl
    simp at ht
    subst ht
    exact .cons n t (ints_of (by simpa using h) fun i m hm => by simpa using hi (i + 1) m (by simpa using hm))
theorem ints_of_items {a c : Int} {n : Nat} {acc : Array Value} (h : ItemsOf (fun i v => ∃ t, v = Value.int (a + i * c) t) acc n) : IntsAre acc.toList ((List.range n).map fun i => a + (i : Nat) * c) := by
  refine ints_of (by simp [h.1]) fun i m hm => ?_
  rw [List.getElem?_map] at hm
  obtain ⟨j, hj, rfl⟩ := Option.map_eq_some_iff.mp hm
  have hlt : i < n := by
    have := (List.getElem?_eq_some_iff.mp hj).1
    simpa using this
  have hji : j = i := by
    rw [List.getElem?_range hlt] at hj
    exact (Option.some.inj hj).symm
  subst hji
  have hsz : j < acc.size := by rw [h.1]; exact hlt
  obtain ⟨t, ht⟩ := h.2 j acc[j] (by simp [hsz])
  exact ⟨t, by simp [hsz, ht]⟩

/-! ## a, b = (x, y) -/
theorem swapped_two {a c x y : Str} {pa pc px py tp vp : Pos} {k k' : Nat} (hE : EnvOk env ns) (ha : Has ns a .local) (hc : Has ns c .local) (hac : a ≠ c) (hl : pc.line = pa.line) {kx ky : NameKind} (hx : Has ns x kx) (hy : Has ns y ky) :
    swappedStores [.Tuple [.Name a pa, .Name c pc] k tp] (.Tuple [.Name x px, .Name y py] k' vp) env = pure (some [a, c]) := by
  have h1 := hE.kindOf ha
  have h2 := hE.kindOf hc
  have hb : env.blockKind = .function := by unfold Env.blockKind; rw [hE.kind]; rfl
  have hx' := hE.dbg hx
  have hy' := hE.dbg hy
  have hac' : (c == a) = false := by rw [beq_eq_false_iff_ne]; exact Ne.symm hac
  have hp1 : (Expr.Name a pa).pos.line = pa.line := rfl
  unfold swappedStores
  simp only [List.length_cons, List.length_nil, hb, List.any_cons, List.any_nil, List.filterMap_cons, List.filterMap_nil, List.head?_cons, Option.map_some, Option.getD_some, h1, h2, hl, hp1]
  simp [List.eraseDups_cons, hac, Ne.symm hac, foldedForSure, constantsAlone, hx']
  done
def SwK (prog : Program) (w : World) (A : Around) (env : Env) (a c : Str) (vx vy : Value) (QF : Flow → Shared → Prop) (E : Value → Shared → Prop) (s : Shared) : Prop :=
  wpAny (model prog w) A (newTuple [vx, vy]) (fun v s₁ => wpAny (model prog w) A (unpackItems v 2 none) (fun items s₂ => wpAny (model prog w) A (assignInOrder [fun v => bindName env c v, fun v => bindName env a v] items.reverse) (fun _ => QF .next) E s₂) E s₁) E s
theorem s_swap {a c x y : Str} {pa pc px py tp vp pos : Pos} {k k' : Nat} {kx ky : NameKind} (hE : EnvOk env ns) (ha : Has ns a .local) (hc : Has ns c .local) (hac : a ≠ c) (hl : pc.line = pa.line) (hx : Has ns x kx) (hy : Has ns y ky)
    (h : St w L b fr nw (wpAny (model prog w) A (eval (.Name x px) env) (fun vx => wpAny (model prog w) A (eval (.Name y py) env) (fun vy => SwK prog w A env a c vx vy QF E) E) E)) :
    St w L b fr nw (wpAny (model prog w) A (exec (.Assign [.Tuple [.Name a pa, .Name c pc] k tp] (.Tuple [.Name x px, .Name y py] k' vp) pos) env) QF E) := fun s hs => by
  have hw := swapped_two (pa := pa) (pc := pc) (px := px) (py := py) (tp := tp) (vp := vp) (k := k) (k' := k') hE ha hc hac hl hx hy
  have h0 : swapsWithSole [.Tuple [.Name a pa, .Name c pc] k tp] (.Tuple [.Name x px, .Name y py] k' vp) pos.line env = pure false := rfl
  have h1 := h s hs
  refine Assign_Tuple_swapped (names := [a, c]) ?_ h0 hw
  refine Tuple_ ?_
  refine args_cons (wpAny_mono h1 (fun vx s₁ h₁ => ?_) fun _ _ x => x) rfl
  refine args_cons (wpAny_mono h₁ (fun vy s₂ h₂ => ?_) fun _ _ x => x) rfl
  exact args_nil h₂
theorem r_SwK {a c : Str} {vx vy : Value} (hh : A.handled = none) (h : St w L b fr nw (wpAny (model prog w) A (storeName env c vy) (fun _ => wpAny (model prog w) A (storeName env a vx) (fun _ => QF .next) E) E)) : St w L b fr nw (SwK prog w A env a c vx vy QF E) := fun s hs => by
  have ht : (s.heap.push { cls := .type "tuple", data := .seq #[vx, vy] }).IsTuple s.heap.objs.size #[vx, vy] := ⟨_, Heap.get?_push_size _ rfl, rfl, 0, rfl⟩
  unfold SwK
  refine wpAny_newTuple ?_ (by rw [sizeLine_eq]; simp)
  refine wpAny_unpackItems_tuple (items := #[vx, vy]) hh ht ?_
  intro h' he
  have hs2 : At w L b fr nw { s with heap := h' } := hs.grow (tk := s.toks) fun x o e => he x o (by rw [Heap.size_push]; exact Nat.ne_of_lt (Nat.lt_succ_of_lt (Heap.lt_size e))) (Heap.get?_push_of_some _ e)
  exact wpAny_assignInOrder_more (wpAny_bindName (wpAny_mono (h _ hs2) (fun _ s₃ h₃ => wpAny_assignInOrder_more (wpAny_bindName (wpAny_mono h₃ (fun _ s₄ h₄ => wpAny_assignInOrder_none h₄) fun _ _ x => x))) fun _ _ x => x))

/-! ## more of ints -/
theorem i_mul {Q : Value → Shared → Prop} {x y : Int} (hx : -(2 ^ 40) < x ∧ x < 2 ^ 40) (h : ∀ t, St w L b fr nw (Q (.int (x * y) t))) : St w L b fr nw (wpAny (model prog w) A (binaryOp .Mult (.int x t) (.int y u)) Q E) := fun s hs => PyProof.Rows.mul_int (h _ _ (hs.toks _)) (IntMulOk.of_left (PySem.intBits_le_64 (by omega) (by omega)))
theorem i_fdiv {Q : Value → Shared → Prop} {x y : Int} (hy : 0 < y ∧ y < 2 ^ 40) (h : ∀ t, St w L b fr nw (Q (.int (x.fdiv y) t))) : St w L b fr nw (wpAny (model prog w) A (binaryOp .FloorDiv (.int x t) (.int y u)) Q E) := fun s hs => PyProof.Rows.floordiv_int (by omega) (h _ _ (hs.toks _)) (Or.inl (PyProof.noPylong_of_log2 (by
  have hlt : y.natAbs < 2 ^ 40 := by omega
  have := Nat.log2_lt (n := y.natAbs) (k := 40) (by omega)
  omega)))
theorem i_pow {Q : Value → Shared → Prop} {x y : Int} (hx : 0 ≤ x ∧ x < 2 ^ 40) (hy : 0 ≤ y ∧ y < 1000) (h : ∀ t, St w L b fr nw (Q (.int (x ^ y.toNat) t))) : St w L b fr nw (wpAny (model prog w) A (binaryOp .Pow (.int x t) (.int y u)) Q E) := fun s hs => PyProof.Rows.pow_int_small hy.1 (by omega) (by omega) (h _ _ (hs.toks _))

/-! ## slices of texts, by their shapes -/
theorem x_sl_sn {Q : Value → Shared → Prop} {x : List Nat} {a : Addr} {i : Int} {ti : Tok} {value slice : Expr} (hx : x.length < 2 ^ 20) (h : ∀ t, St w L b fr nw (Q (.str (T (pySl x (some i) none)) t)))
    (hs : subscripted slice false (.str (T x) t) (.ref a) = operate [.ref a, .str (T x) t] (getItem (.str (T x) t) (.ref a)) := by with_unfolding_all rfl) :
    St w L b fr ((a, .obj (slO (.int i ti) .none)) :: nw) (wpAny (model prog w) A (subscriptTail value slice (.str (T x) t) (.ref a)) Q E) := x_str_slice (l := some (i, ti)) (v := none) hx h hs
theorem x_sl_ns {Q : Value → Shared → Prop} {x : List Nat} {a : Addr} {i : Int} {ti : Tok} {value slice : Expr} (hx : x.length < 2 ^ 20) (h : ∀ t, St w L b fr nw (Q (.str (T (pySl x none (some i))) t)))
    (hs : subscripted slice false (.str (T x) t) (.ref a) = operate [.ref a, .str (T x) t] (getItem (.str (T x) t) (.ref a)) := by with_unfolding_all rfl) :
    St w L b fr ((a, .obj (slO .none (.int i ti))) :: nw) (wpAny (model prog w) A (subscriptTail value slice (.str (T x) t) (.ref a)) Q E) := x_str_slice (l := none) (v := some (i, ti)) hx h hs
theorem x_sl_nn {Q : Value → Shared → Prop} {x : List Nat} {a : Addr} {value slice : Expr} (hx : x.length < 2 ^ 20) (h : ∀ t, St w L b fr nw (Q (.str (T (pySl x none none)) t)))
    (hs : subscripted slice false (.str (T x) t) (.ref a) = operate [.ref a, .str (T x) t] (getItem (.str (T x) t) (.ref a)) := by with_unfolding_all rfl) :
    St w L b fr ((a, .obj (slO .none .none)) :: nw) (wpAny (model prog w) A (subscriptTail value slice (.str (T x) t) (.ref a)) Q E) := x_str_slice (l := none) (v := none) hx h hs
theorem x_sl_ss {Q : Value → Shared → Prop} {x : List Nat} {a : Addr} {i j : Int} {ti tj : Tok} {value slice : Expr} (hx : x.length < 2 ^ 20) (h : ∀ t, St w L b fr nw (Q (.str (T (pySl x (some i) (some j))) t)))
    (hs : subscripted slice false (.str (T x) t) (.ref a) = operate [.ref a, .str (T x) t] (getItem (.str (T x) t) (.ref a)) := by with_unfolding_all rfl) :
    St w L b fr ((a, .obj (slO (.int i ti) (.int j tj))) :: nw) (wpAny (model prog w) A (subscriptTail value slice (.str (T x) t) (.ref a)) Q E) := x_str_slice (l := some (i, ti)) (v := some (j, tj)) hx h hs
theorem pySl_from {α : Type} (l : List α) (i : Nat) : pySl l (some (i : Int)) none = l.drop i := by
  show (l.take l.length).drop (max 0 (min (if (i : Int) < 0 then (i : Int) + (l.length : Int) else i) (l.length : Int))).toNat = _
  rw [List.take_length]
  by_cases h : i ≤ l.length
  · congr 1; omega
  · rw [List.drop_eq_nil_of_le (by omega), List.drop_eq_nil_of_le (by omega)]
theorem pySl_all {α : Type} (l : List α) : pySl l none none = l := by simp [pySl, clipLo, clipHi]
theorem pySl_to {α : Type} (l : List α) (i : Nat) : pySl l none (some (i : Int)) = l.take i := by
  show (l.take (max 0 (min (if (i : Int) < 0 then (i : Int) + (l.length : Int) else i) (l.length : Int))).toNat).drop 0 = _
  rw [List.drop_zero]
  by_cases h : i ≤ l.length
  · congr 1; omega
  · rw [List.take_of_length_le (by omega), List.take_of_length_le (by omega)]
theorem pySl_neg {α : Type} (l q : List α) (h : 0 < q.length) : pySl (l ++ q) none (some (-(q.length : Int))) = l := by
  show ((l ++ q).take (max 0 (min (if -(q.length : Int) < 0 then -(q.length : Int) + ((l ++ q).length : Int) else -(q.length : Int)) ((l ++ q).length : Int))).toNat).drop 0 = _
  rw [List.drop_zero, List.length_append]
  have e : (max 0 (min (if -(q.length : Int) < 0 then -(q.length : Int) + ((l.length + q.length : Nat) : Int) else -(q.length : Int)) ((l.length + q.length : Nat) : Int))).toNat = l.length := by
    rw [if_pos (by omega)]; omega
  rw [e]; simp

/-- list(range(..)) -/
theorem c_list_range {a : Addr} {n m d : Int} {k : Nat} {t0 t1 t2 : Tok} {Q : Value → Shared → Prop} (hh : A.handled = none) (hn : 0 ≤ n ∧ n < 2 ^ 20) (hm : 0 ≤ m ∧ m < 2 ^ 20) (hd : 0 < d ∧ d < 2 ^ 20) (hk : Builtin.Range.rangeSize n m d = k) (hk2 : k < 2 ^ 20)
    (h : ∀ a vs, IntsAre vs ((List.range k).map fun i => n + (i : Nat) * d) → St w L b fr ((a, .list vs) :: nw) (Q (.ref a))) : St w L b fr ((a, .obj (rgO n m d t0 t1 t2)) :: nw) (wpAny (model prog w) A (call (.type "list") [.ref a]) Q E) := fun s hs' => by
  obtain ⟨o, ho, rfl, _⟩ := hs'.get Has.here
  have hs : At w L b fr nw s := hs'.sub (fun p hp => hp) hs'.ndf (fun p hp => .tail _ hp) (by have := hs'.ndn; simp only [List.map_cons, List.nodup_cons] at this; exact this.2)
  refine call_list_range hh ho ?_ hk (by omega) fun h' tk acc c kk hS hit => ?_
  · unfold Builtin.Range.small
    rw [hk]
    have : (d > 0) := hd.1
    simp [Builtin.Range.rangeFitsLong, this]
    omega
  · exact h _ _ (ints_of_items hit) _ (hs.alloc (d := .list acc.toList) ⟨c, by simp⟩ kk (fresh_size _) hS)
end
end Mine
end

-- P1
section
set_option linter.unusedVariables false
namespace Mine
open PyProof.Rows

/-- the cost of making one sign another -/
def sub1 (c d : Nat) : Int := if c = d then 0 else if lo1 c = lo1 d then 1 else 2
theorem sub1_nonneg (c d : Nat) : 0 ≤ sub1 c d := by unfold sub1; split <;> (try split) <;> omega
theorem sub1_le (c d : Nat) : sub1 c d ≤ 2 := by unfold sub1; split <;> (try split) <;> omega
theorem sub1_self (c : Nat) : sub1 c c = 0 := by simp [sub1]
theorem sub1_symm (c d : Nat) : sub1 c d = sub1 d c := by
  unfold sub1
  by_cases h : c = d
  · simp [h]
  · by_cases h2 : lo1 c = lo1 d
    · simp [h, h2, Ne.symm h]
    · simp [h, h2, Ne.symm h, Ne.symm h2]

/-- the table of beginnings -/
def cell (f : Nat → Nat → Int) : Nat → Nat → Int
  | 0, j => 2 * (j : Int)
  | i + 1, 0 => 2 * ((i : Int) + 1)
  | i + 1, j + 1 => min (min (cell f i (j + 1) + 2) (cell f (i + 1) j + 2)) (cell f i j + f i j)

section
variable {f : Nat → Nat → Int}
theorem cell_zero (j : Nat) : cell f 0 j = 2 * (j : Int) := by cases j <;> simp [cell]
theorem cell_col (i : Nat) : cell f i 0 = 2 * (i : Int) := by cases i <;> simp [cell]
theorem cell_succ (i j : Nat) : cell f (i + 1) (j + 1) = min (min (cell f i (j + 1) + 2) (cell f (i + 1) j + 2)) (cell f i j + f i j) := by rw [cell]

theorem cell_congr {g : Nat → Nat → Int} : ∀ (i j : Nat), (∀ x y, x < i → y < j → f x y = g x y) → cell f i j = cell g i j
  | 0, j, _ => by rw [cell_zero, cell_zero]
  | i + 1, 0, _ => by rw [cell_col, cell_col]
  | i + 1, j + 1, h => by
    rw [cell_succ, cell_succ, cell_congr i (j + 1) fun x y hx hy => h x y (by omega) hy, cell_congr (i + 1) j fun x y hx hy => h x y hx (by omega), cell_congr i j fun x y hx hy => h x y (by omega) (by omega), h i j (by omega) (by omega)]

theorem cell_up (i j : Nat) : cell f (i + 1) j ≤ cell f i j + 2 := by
  cases j with
  | zero => rw [cell_col, cell_col]; push_cast; omega
  | succ j => rw [cell_succ]; omega
theorem cell_left (i j : Nat) : cell f i (j + 1) ≤ cell f i j + 2 := by
  cases i with
  | zero => rw [cell_zero, cell_zero]; push_cast; omega
  | succ i => rw [cell_succ]; omega

variable (hf : ∀ i j, 0 ≤ f i j)
include hf
/-- at least the lengths' difference, twice -/
theorem cell_lb : ∀ (i j : Nat), 2 * ((i : Int) - j) ≤ cell f i j ∧ 2 * ((j : Int) - i) ≤ cell f i j
  | 0, j => by rw [cell_zero]; omega
  | i + 1, 0 => by rw [cell_col]; omega
  | i + 1, j + 1 => by
    have h1 := cell_lb i (j + 1)
    have h2 := cell_lb (i + 1) j
    have h3 := cell_lb i j
    have h4 := hf i j
    rw [cell_succ]
    push_cast at *
    omega
theorem cell_nonneg (i j : Nat) : 0 ≤ cell f i j := by have := cell_lb hf i j; omega
mutual
theorem cell_down : ∀ (i j : Nat), cell f i j ≤ cell f (i + 1) j + 2
  | i, 0 => by rw [cell_col, cell_col]; push_cast; omega
  | i, j + 1 => by
    have h1 := cell_right i j
    have h2 := cell_down i j
    have h3 := cell_left (f := f) i j
    have h4 := hf i j
    rw [cell_succ]
    omega
theorem cell_right : ∀ (i j : Nat), cell f i j ≤ cell f i (j + 1) + 2
  | 0, j => by rw [cell_zero, cell_zero]; push_cast; omega
  | i + 1, j => by
    have h1 := cell_down i j
    have h2 := cell_right i j
    have h3 := cell_up (f := f) i j
    have h4 := hf i j
    rw [cell_succ]
    omega
end
/-- an equal last sign -/
theorem cell_last {i j : Nat} (h0 : f i j = 0) : cell f (i + 1) (j + 1) = cell f i j := by
  have h1 := cell_right hf i j
  have h2 := cell_down hf i j
  rw [cell_succ, h0]
  omega
/-- an equal first sign -/
theorem cell_first {g : Nat → Nat → Int} (h0 : f 0 0 = 0) (hg : ∀ i j, f (i + 1) (j + 1) = g i j) : ∀ (i j : Nat), cell f (i + 1) (j + 1) = cell g i j
  | 0, 0 => by rw [cell_succ, cell_zero, cell_col, cell_zero, cell_zero, h0]; push_cast; omega
  | 0, j + 1 => by
    have ih := cell_first (g := g) h0 hg 0 j
    have h4 := hf 0 (j + 1)
    rw [cell_succ, ih, cell_zero, cell_zero, cell_zero, cell_zero]
    push_cast
    omega
  | i + 1, 0 => by
    have ih := cell_first (g := g) h0 hg i 0
    have h4 := hf (i + 1) 0
    rw [cell_succ, ih, cell_col, cell_col, cell_col, cell_col]
    push_cast
    omega
  | i + 1, j + 1 => by
    rw [cell_succ, cell_first (g := g) h0 hg i (j + 1), cell_first (g := g) h0 hg (i + 1) j, cell_first (g := g) h0 hg i j, hg, cell_succ]
omit hf in
theorem cell_symm {g : Nat → Nat → Int} (hg : ∀ i j, f i j = g j i) : ∀ (i j : Nat), cell f i j = cell g j i
  | 0, j => by rw [cell_zero, cell_col]
  | i + 1, 0 => by rw [cell_col, cell_zero]
  | i + 1, j + 1 => by
    rw [cell_succ, cell_succ, cell_symm hg i (j + 1), cell_symm hg (i + 1) j, cell_symm hg i j, hg i j]
    omega
omit hf in
/-- one sign against n of them -/
theorem cell_one (hf2 : ∀ i j, f i j ≤ 2) (n : Nat) : cell f (n + 1) 1 ≤ 2 * ((n : Int) + 1) := by
  have := hf2 n 0
  rw [cell_succ, cell_col, cell_col]
  push_cast
  omega
/-- what a row has at least, the later ones have -/
theorem cell_rows {m : Int} {i n : Nat} (h : ∀ j, j ≤ n → m ≤ cell f i j) : ∀ (k j : Nat), j ≤ n → m ≤ cell f (i + k) j
  | 0, j, hj => h j hj
  | k + 1, 0, hj => by
    have := cell_rows h k 0 hj
    rw [cell_col] at this ⊢
    push_cast at *
    omega
  | k + 1, j + 1, hj => by
    have h1 := cell_rows h k (j + 1) hj
    have h2 := cell_rows h (k + 1) j (by omega)
    have h3 := cell_rows h k j (by omega)
    have h4 := hf (i + k) j
    rw [show i + (k + 1) = (i + k) + 1 from by omega] at h2 ⊢
    rw [cell_succ]
    omega
end

/-- the distance of two texts -/
def lf (a b : List Nat) (i j : Nat) : Int := sub1 (a.getD i 0) (b.getD j 0)
def dist (a b : List Nat) : Int := cell (lf a b) a.length b.length
theorem lf_nonneg (a b : List Nat) (i j : Nat) : 0 ≤ lf a b i j := sub1_nonneg _ _
theorem lf_le (a b : List Nat) (i j : Nat) : lf a b i j ≤ 2 := sub1_le _ _
theorem dist_symm (a b : List Nat) : dist a b = dist b a := cell_symm (fun i j => sub1_symm _ _) _ _
theorem dist_cons (c : Nat) (a b : List Nat) : dist (c :: a) (c :: b) = dist a b := by
  unfold dist
  exact cell_first (lf_nonneg _ _) (by simp [lf, sub1_self]) (fun i j => by simp [lf]) _ _
theorem dist_snoc (c : Nat) (a b : List Nat) : dist (a ++ [c]) (b ++ [c]) = dist a b := by
  unfold dist
  rw [List.length_append, List.length_append, List.length_singleton, cell_last (lf_nonneg _ _) (by simp [lf, sub1_self])]
  apply cell_congr
  intro x y hx hy
  simp [lf, List.getElem?_append_left hx, List.getElem?_append_left hy]
theorem dist_pre (p a b : List Nat) : dist (p ++ a) (p ++ b) = dist a b := by
  induction p with
  | nil => rfl
  | cons c p ih => rw [List.cons_append, List.cons_append, dist_cons, ih]
theorem dist_suf (q a b : List Nat) : dist (a ++ q) (b ++ q) = dist a b := by
  induction q generalizing a b with
  | nil => simp
  | cons c q ih =>
    rw [show a ++ c :: q = (a ++ [c]) ++ q by simp, show b ++ c :: q = (b ++ [c]) ++ q by simp, ih, dist_snoc]
theorem dist_nil (a b : List Nat) (h : a = [] ∨ b = []) : dist a b = 2 * ((a.length : Int) + b.length) := by
  unfold dist
  rcases h with rfl | rfl
  · simp [cell_zero]
  · simp [cell_col]
theorem dist_self (a : List Nat) : dist a a = 0 := by
  have := dist_pre a [] []
  simpa [dist_nil] using this
theorem dist_lb (a b : List Nat) : 2 * ((b.length : Int) - a.length) ≤ dist a b := (cell_lb (lf_nonneg a b) _ _).2
theorem dist_nonneg (a b : List Nat) : 0 ≤ dist a b := cell_nonneg (lf_nonneg a b) _ _
end Mine
end

-- P2
section
set_option linter.unusedVariables false
namespace Mine
open PySem PyProof.Rows

/-- the row at work: so many cells anew -/
def rowM (f : Nat → Nat → Int) (n i k : Nat) : List Int := (List.range n).map fun j => if j < k then cell f (i + 1) (j + 1) else cell f i (j + 1)
theorem rowM_len (f : Nat → Nat → Int) (n i k : Nat) : (rowM f n i k).length = n := by simp [rowM]
theorem rowM_get {f : Nat → Nat → Int} {n i k j : Nat} (h : j < n) : (rowM f n i k)[j]? = some (if j < k then cell f (i + 1) (j + 1) else cell f i (j + 1)) := by simp [rowM, h]
theorem rowM_next (f : Nat → Nat → Int) (n i : Nat) : rowM f n i n = rowM f n (i + 1) 0 := by
  unfold rowM
  apply List.map_congr_left
  intro j hj
  simp [List.mem_range.mp hj]
theorem rowM_set {f : Nat → Nat → Int} {n i k : Nat} (h : k < n) : (rowM f n i k).set k (cell f (i + 1) (k + 1)) = rowM f n i (k + 1) := by
  apply List.ext_getElem?
  intro j
  rw [List.getElem?_set, rowM_len]
  by_cases hj : j < n
  · rw [rowM_get hj, rowM_get hj]
    by_cases e : k = j
    · subst e; simp [h]
    · have : (j < k) = (j < k + 1) := by rw [eq_iff_iff]; omega
      simp [e, this]
  · have h1 : (rowM f n i (k + 1))[j]? = none := by rw [List.getElem?_eq_none_iff, rowM_len]; omega
    have h2 : (rowM f n i k)[j]? = none := by rw [List.getElem?_eq_none_iff, rowM_len]; omega
    rw [h1, h2]
    split <;> (try split) <;> first | rfl | omega
theorem rowM_start (f : Nat → Nat → Int) (n : Nat) : rowM f n 0 0 = (List.range n).map fun i => (2 : Int) + (i : Nat) * 2 := by
  unfold rowM
  apply List.map_congr_left
  intro j hj
  simp [cell_zero]
  omega
/-- one cell -/
theorem step_cell {f : Nat → Nat → Int} (hf : ∀ i j, 0 ≤ f i j) (hf2 : ∀ i j, f i j ≤ 2) {i k : Nat} {res : Int} (h0 : k = 0 → res = 2 * (i : Int)) (h1 : 0 < k → res = cell f (i + 1) k) :
    min (min res (cell f i (k + 1)) + 2) (cell f i k + f i k) = cell f (i + 1) (k + 1) := by
  have hfi := hf i k
  have hfi2 := hf2 i k
  rw [cell_succ]
  rcases Nat.eq_zero_or_pos k with rfl | hk
  · have e := h0 rfl
    rw [cell_col, cell_col]
    cases i with
    | zero => rw [cell_zero]; push_cast; omega
    | succ i =>
      have h2 := cell_one (f := f) hf2 i
      push_cast at *
      omega
  · rw [h1 hk]; omega
/-- an early end -/
theorem early {f : Nat → Nat → Int} (hf : ∀ i j, 0 ≤ f i j) (hf2 : ∀ i j, f i j ≤ 2) {n i N : Nat} {m mn : Int} (hn : 0 < n) (hi : i < N) (hmn : ∀ j, j < n → mn ≤ cell f (i + 1) (j + 1)) (hm : m < mn) : m < cell f N n := by
  have key : ∀ j, j ≤ n → m + 1 ≤ cell f (i + 1) j := by
    intro j hj
    cases j with
    | zero =>
      have h1 := cell_one (f := f) hf2 i
      have h2 := hmn 0 hn
      simp only [Nat.zero_add] at h2
      rw [cell_col]
      push_cast
      omega
    | succ j =>
      have := hmn j (by omega)
      omega
  have := cell_rows hf key (N - (i + 1)) n (Nat.le_refl _)
  rw [show i + 1 + (N - (i + 1)) = N from by omega] at this
  omega

theorem ints_get {vs : List Value} {ns : List Int} (h : IntsAre vs ns) {i : Nat} {n : Int} (hn : ns[i]? = some n) : ∃ t, vs[i]? = some (.int n t) := h.get i n hn
theorem ints_set {vs : List Value} {ns : List Int} (h : IntsAre vs ns) (i : Nat) (n : Int) (t : Tok) : IntsAre (vs.set i (.int n t)) (ns.set i n) := PySem.W.ints_set h i
theorem cell_le_max {f : Nat → Nat → Int} : ∀ (i j : Nat), cell f i j ≤ 2 * ((i : Int) + j)
  | 0, j => by rw [cell_zero]; omega
  | i + 1, j => by have := cell_up (f := f) i j; have := cell_le_max (f := f) i j; push_cast; omega
end Mine
end

-- C7
section
open PySem PySem.W PySem.Calls PyProof.Rows PySem.Builtin
set_option Elab.async false
set_option linter.unusedVariables false
set_option linter.unusedSimpArgs false
set_option maxRecDepth 20000
namespace Mine

/-- the order of pairs -/
def plt (p q : Int × Int) : Bool := decide (p.1 < q.1 ∨ (p.1 = q.1 ∧ p.2 < q.2))

section
variable {prog : Program} {w : World} {A : Around} {E : Value → Shared → Prop} {env : Env} {ns : List (Str × NameKind)} {b : Shared} {fr fr' : Frm} {nw nw' : Led} {QF : Flow → Shared → Prop} {Q : Value → Shared → Prop} {L : Addr} {t u : Tok}

theorem tuple_lt {s : Shared} {a c : Addr} {x1 y1 x2 y2 : Int} {t1 t2 t3 t4 : Tok} (hu : A.units + 10 < cLine) (ha : s.heap.IsTuple a #[.int x1 t1, .int y1 t2]) (hc : s.heap.IsTuple c #[.int x2 t3, .int y2 t4]) (h : Q (.bool (plt (x1, y1) (x2, y2))) s) :
    wpAny (model prog w) A (compareOp .Lt (.ref a) (.ref c)) Q E s := by
  show wpAny _ _ (richCompare .Lt (.ref a) (.ref c)) Q E s
  have hTa : s.TypeIs (.ref a) "tuple" := let ⟨o, ho, hk, _⟩ := ha; ⟨o, ho, hk⟩
  have hTc : s.TypeIs (.ref c) "tuple" := let ⟨o, ho, hk, _⟩ := hc; ⟨o, ho, hk⟩
  refine wpAny_richCompare_same_room (op := .Lt) (T := "tuple") hTa hTc F.slot_tuple_lt (wpAny_call_entry F.slot_tuple_lt hTa F.entry_tuple_lt ?_ (F.args_tuple_lt_2 _ _)) (by omega)
  obtain ⟨oa, hoa, _, na, hda⟩ := ha
  obtain ⟨oc, hoc, _, nc, hdc⟩ := hc
  show wpAny _ _ (isInstance (.ref c) (.type "tuple") >>= _) _ _ s
  refine wpAny_bind (wpAny_isInstance hTc isSubtype_tuple_tuple ?_)
  simp only [Bool.not_true, Bool.false_eq_true, if_false]
  refine wpAny_bind (wpAny_tupleItemsOf hoa hda ?_)
  refine wpAny_bind (wpAny_tupleItemsOf hoc hdc ?_)
  refine wpAny_bind ?_
  show wpAny _ _ (forIn [(Value.int x1 t1, Value.int x2 t3), (Value.int y1 t2, Value.int y2 t4)] _ _) _ _ s
  rw [List.forIn_cons]
  refine wpAny_bind (wpAny_bind (wpAny_eqBool_int ?_))
  by_cases h1 : x1 = x2
  · subst h1
    simp only [beq_self_eq_true, Bool.not_true, Bool.false_eq_true, if_false]
    refine wpAny_pure ?_
    dsimp only
    rw [List.forIn_cons]
    refine wpAny_bind (wpAny_bind (wpAny_eqBool_int ?_))
    by_cases h2 : y1 = y2
    · subst h2
      simp only [beq_self_eq_true, Bool.not_true, Bool.false_eq_true, if_false]
      refine wpAny_pure ?_
      dsimp only
      rw [List.forIn_nil]
      refine wpAny_pure ?_
      dsimp only
      refine wpAny_pure ⟨_, rfl, by simp [Tuple.tupleCompareSizes], ?_⟩
      have e : plt (x1, y1) (x1, y1) = false := by simp [plt]
      rw [e] at h
      simpa [Tuple.tupleCompareSizes] using h
    · have e : (y1 == y2) = false := by simpa using h2
      simp only [e, Bool.not_false, if_true]
      refine wpAny_bind (wpAny_rule (wpAny_bind ?_))
      show wpAny _ _ (compareOp .Lt (.int y1 t2) (.int y2 t4)) _ _ s
      refine PyProof.Rows.lt_int (wpAny_bind (wpAny_pure (wpAny_pure ?_)))
      dsimp only
      refine wpAny_pure (wpAny_pure ⟨_, rfl, by simp, ?_⟩)
      have e2 : plt (x1, y1) (x1, y2) = decide (y1 < y2) := by simp [plt]
      rw [← e2]; exact h
  · have e : (x1 == x2) = false := by simpa using h1
    simp only [e, Bool.not_false, if_true]
    refine wpAny_bind (wpAny_rule (wpAny_bind ?_))
    show wpAny _ _ (compareOp .Lt (.int x1 t1) (.int x2 t3)) _ _ s
    refine PyProof.Rows.lt_int (wpAny_bind (wpAny_pure (wpAny_pure ?_)))
    dsimp only
    refine wpAny_pure (wpAny_pure ⟨_, rfl, by simp, ?_⟩)
    have e2 : plt (x1, y1) (x2, y2) = decide (x1 < x2) := by simp [plt, h1]
    rw [← e2]; exact h

/-! ## calls that change one list of the caller's -/
/-- the end of such a call -/
def RK (w : World) (L : Addr) (b : Shared) (H : Addr) (P : Value → D → Prop) (fl : Flow) (s : Shared) : Prop := ∃ d fr, P (match fl with | .ret v => v | _ => .none) d ∧ At w L b fr [(H, d)] s
theorem rk_ret {H : Addr} {d : D} {v : Value} {P : Value → D → Prop} (h : P v d) : St w L b fr [(H, d)] (RK w L b H P (.ret v)) := fun s hs => ⟨d, fr, h, hs⟩
theorem rk_next {H : Addr} {d : D} {P : Value → D → Prop} (h : P .none d) : St w L b fr [(H, d)] (RK w L b H P .next) := fun s hs => ⟨d, fr, h, hs⟩
theorem put1 {H : Addr} {d d' : D} {nw' : Led} (h : Put [(H, d)] H d' nw') : nw' = [(H, d')] := by
  cases h with
  | here => rfl
  | there h => cases h
theorem Has.put {α β : Type} {l : List (α × β)} {x : α} {v : β} (h : Has l x v) (v' : β) : ∃ l', Put l x v' l' := by
  induction h with
  | here => exact ⟨_, .here⟩
  | there _ ih => obtain ⟨l', h'⟩ := ih; exact ⟨_, .there h'⟩

theorem fn_enter1 {f : Addr} {o : Obj} {fd : FuncData} {body : List Stmt} {args : List Value} {binds : List (Str × Value)} (fr0 : Frm) {H : Addr} {vs : List Value} {P : Value → D → Prop} (hH : Has nw H (.list vs))
    (ok : A.depth < 900) (ho : (hd.heap_39 w.params).lookup f = some o) (hdt : o.data = .func fd) (hb : fd.body = .stmts body) (hc : codeIn (hd.heap_39 w.params) fd.code fd.qualname = true)
    (hbind : bindArgs fd ⟨args, []⟩ = pure binds) (hns : fd.scope.names = ns) (hcell : ns.all (fun x => x.2 != .cell) = true) (hloc : binds.all (fun y => decide (ns.lookup y.1 = some .local)) = true)
    (hfr : fr0.map (fun p => binds.reverse.lookup p.1) = fr0.map (·.2)) (ndf : (fr0.map (·.1)).Nodup) (ndn : (ns.map (·.1)).Nodup ∧ Str.ofString "__debug__" ∉ ns.map (·.1))
    (hco : (fd.scope.isCoroutine || fd.scope.isGenerator || !(fd.scope.kind == .function) || !(fd.globals == mainGlobals) || !(fd.builtins == builtinsNs)) = false)
    (h : ∀ env b', EnvOk env ns → (∀ a us, SeesT w L b fr nw a us → b'.heap.IsTuple a us.toArray) → St w env.locals b' fr0 [(H, .list vs)] (wpAny (model prog w) (A.deeper env) (execs body env) (RK w env.locals b' H P) FF))
    (k : ∀ v d' nw', P v d' → Put nw H d' nw' → St w L b fr nw' (Q v)) : St w L b fr nw (wpAny (model prog w) A (call (.ref f) args) Q E) := fun s hs => by
  simp only [Bool.or_eq_false_iff, Bool.not_eq_false', beq_iff_eq] at hco
  obtain ⟨⟨⟨⟨h1, h2⟩, h3⟩, h4⟩, h5⟩ := hco
  subst hns
  have g := hs.gds
  refine wpAny_call (codeAny_call_def (fd := fd) (body := body) (binds := binds) (by show A.depth < 1000; omega) (g.K _ _ ho) hdt g.lim (codeRec_of g.K hc) hb (BindsTo.of_eq hbind) (fun x hx => ?_) (fun y hy => of_decide_eq_true (List.all_eq_true.mp hloc y hy)) (fun h₁ hns hk₁ => ?_) h1 h2 h3)
  · have := List.all_eq_true.mp hcell x hx
    simpa using this
  · obtain ⟨b', kb, hat, hoff, back⟩ := At.start1 (tk := s.toks + binds.length) hs hH hns (fr_of hfr) ndf hk₁
    refine wpAny_mono (h (callEnv fd s.heap.objs.size f) b' ⟨h3, rfl, ndn.1, ndn.2, h4, h5⟩ (fun a us hse => ?_) _ hat) (fun fl s' q => ?_) fun _ _ q => q.elim
    · obtain ⟨oa, e1, e2, e3⟩ := hse s hs
      refine ⟨oa, hoff a oa (fun q => ?_) e1, e2, e3⟩
      obtain ⟨oh, e4, n, rfl⟩ := hs.get hH
      rw [q, e4] at e1
      cases e1
      have e5 : Value.type "list" = Value.type "tuple" := e2
      exact absurd e5 (by decide)
    · obtain ⟨d', fr'', hP, hat'⟩ := q
      obtain ⟨nw', hput⟩ := hH.put d'
      exact k _ d' nw' hP hput s' (back s' fr'' d' nw' hat' hput)

/-! ## pairs in a heap -/
abbrev HI := Addr × Int × Int
abbrev vref (h : HI) : Value := .ref h.1
def Tp (b : Shared) (h : HI) : Prop := ∃ tx ty, b.heap.IsTuple h.1 #[.int h.2.1 tx, .int h.2.2 ty]
def SeesP (w : World) (L : Addr) (b : Shared) (fr : Frm) (nw : Led) (h : HI) : Prop := ∃ tx ty, SeesT w L b fr nw h.1 [.int h.2.1 tx, .int h.2.2 ty]
theorem Tp.sees {h : HI} (x : Tp b h) : SeesP w L b fr nw h := let ⟨tx, ty, e⟩ := x; ⟨tx, ty, seesT_b e⟩
theorem i_tlt {h g : HI} (hu : A.units < 9000) (h1 : SeesP w L b fr nw h) (h2 : SeesP w L b fr nw g) (k : St w L b fr nw (Q (.bool (plt h.2 g.2)))) : St w L b fr nw (wpAny (model prog w) A (compareOp .Lt (.ref h.1) (.ref g.1)) Q E) := fun s hs => by
  obtain ⟨t1, t2, h1⟩ := h1
  obtain ⟨t3, t4, h2⟩ := h2
  exact tuple_lt (by show A.units + 10 < 9900; omega) (h1 s hs) (h2 s hs) (k s hs)

/-! ## written texts -/
theorem r_strT {x : Str} {l : List Nat} {k pos} (hl : x = T l) (h : ∀ t, St w L b fr nw (Q (.str (T l) t))) : St w L b fr nw (wpAny (model prog w) A (eval (.Constant (.str x) k pos) env) Q E) := hl ▸ r_str h
theorem lit0 : Str.ofString "" = T [] := by decide +kernel
theorem lit_r : Str.ofString "-r" = T [45, 114] := by decide +kernel
theorem lit_w : Str.ofString "-w" = T [45, 119] := by decide +kernel
theorem lit_x : Str.ofString "-xSs" = T [45, 120, 83, 115] := by decide +kernel
theorem lit_wR : Str.ofString "wR" = T [119, 82] := by decide +kernel
theorem lit_q : Str.ofString "?" = T [63] := by decide +kernel
theorem lit_m : Str.ofString "-" = T [45] := by decide +kernel
end
end Mine
end

-- C8
section
open PySem PySem.W PySem.Calls PyProof.Rows PySem.Builtin
set_option Elab.async false
set_option linter.unusedVariables false
set_option linter.unusedSimpArgs false
set_option maxRecDepth 20000
namespace Mine

/-- what a loop draws from its iterator: plain values, or new tuples -/
structure Wk (prog : Program) (w : World) (A : Around) (target : Expr) (I : Addr) (fp wr : List Addr) (n : Nat) (X : Nat → Value → Option (Array Value) → Prop) (WS : Nat → Heap → Prop) : Prop where
  sub : ∀ b ∈ wr, b ∈ fp
  frame : ∀ i h h', WS i h → (∀ b ∈ fp, ∀ o, h.get? b = some o → h'.get? b = some o) → WS i h'
  alive : ∀ i h, WS i h → ∀ x ∈ fp, ∃ o, h.get? x = some o
  item : ∀ i (s : Shared) (Q : Value → Shared → Prop), i < n → WS i s.heap →
    (∀ v ov h' tk, X i v ov → (∀ vals, ov = some vals → ∃ T, v = .ref T ∧ s.heap.objs.size ≤ T ∧ h'.IsTuple T vals) → WS (i + 1) h' → (∀ b o, b ∉ wr → s.heap.get? b = some o → h'.get? b = some o) → Q v { s with heap := h', toks := tk }) →
    wpAny (model prog w) A (pyNext (.ref I)) (fun r s₁ => match r with | none => False | some v => wpAny (model prog w) A (letOwnedTupleGo target (.ref I) v) (fun _ => Q v) FF s₁) FF s
  done : ∀ (s : Shared) (Q : Option Value → Shared → Prop) (E : Value → Shared → Prop), WS n s.heap →
    (∀ h' tk, (∀ b o, b ∉ wr → s.heap.get? b = some o → h'.get? b = some o) → Q none { s with heap := h', toks := tk }) → wpAny (model prog w) A (pyNext (.ref I)) Q E s
  self : ∀ i (s : Shared) (Q : Value → Shared → Prop) (E : Value → Shared → Prop), WS i s.heap → Q (.ref I) s → wpAny (model prog w) A (pyIter (.ref I)) Q E s

section
variable {prog : Program} {w : World} {A : Around} {E : Value → Shared → Prop} {env : Env} {ns : List (Str × NameKind)} {b : Shared} {fr fr' : Frm} {nw nw' : Led} {QF : Flow → Shared → Prop} {Q : Value → Shared → Prop} {L : Addr} {t u : Tok}
variable {I : Addr} {fp wr : List Addr} {n : Nat} {WS : Nat → Heap → Prop} {target : Expr}

theorem Wk.of {P : Nat → Value → Prop} (W : Walks prog w A I fp wr n P WS) (alive : ∀ i h, WS i h → ∀ x ∈ fp, ∃ o, h.get? x = some o)
    (ht : ∀ (i : Nat) (v : Value) (s : Shared) (Q : Unit → Shared → Prop), WS (i + 1) s.heap → P i v → Q () s → wpAny (model prog w) A (letOwnedTupleGo target (.ref I) v) Q FF s) :
    Wk prog w A target I fp wr n (fun i v ov => P i v ∧ ov = none) WS where
  sub := W.sub
  frame := W.frame
  alive := alive
  item := fun i s Q hi hst hQ => W.item i s _ _ hi hst fun v h' tk hP hst' hk => ht i v _ _ hst' hP (hQ v none h' tk ⟨hP, rfl⟩ (fun _ e => nomatch e) hst' hk)
  done := W.done
  self := W.self
theorem Wk.ofT {elts : List Expr} {k : Nat} {pos : Pos} {Pt : Nat → Array Value → Prop} {Mid : Nat → Addr → Heap → Prop} (W : WalksT prog w A I fp wr n Pt WS Mid) (alive : ∀ i h, WS i h → ∀ x ∈ fp, ∃ o, h.get? x = some o) :
    Wk prog w A (.Tuple elts k pos) I fp wr n (fun i v ov => ∃ vals, Pt i vals ∧ ov = some vals) WS where
  sub := W.sub
  frame := W.frame
  alive := alive
  item := fun i s Q hi hst hQ => W.item i s _ _ hi hst fun T vals h' tk hP hsz hT hm hk => W.go elts k pos i T _ _ _ hm fun h'' hst'' hk'' =>
    hQ (.ref T) (some vals) h'' tk ⟨vals, hP, rfl⟩ (fun vals' e => by cases e; exact ⟨T, rfl, hsz, (let ⟨o, ho, r⟩ := hT; ⟨o, hk'' _ _ (W.apart _ _ _ hm) ho, r⟩)⟩) hst'' fun b o hb e => hk'' b o hb (hk b o hb e)
  done := W.done
  self := W.self

theorem At.lt {s : Shared} (h : At w L b fr nw s) : L < s.heap.objs.size ∧ ∀ p ∈ nw, p.1 < s.heap.objs.size := by
  obtain ⟨m, ⟨o, _, _, ho, _⟩, _⟩ := h.ns
  exact ⟨Heap.lt_size ho, fun p hp => let ⟨_, e, _⟩ := h.N p hp; Heap.lt_size e⟩

/-- one draw, in terms of the assertion -/
theorem draw {X : Nat → Value → Option (Array Value) → Prop} (W : Wk prog w A target I fp wr n X WS) {s : Shared} {i : Nat} (hi : i < n) (hs : At w L b fr nw s) (hst : WS i s.heap) (hL : L ∉ fp) (hnw : ∀ p ∈ nw, p.1 ∉ fp) (hwr : ∀ x ∈ wr, b.heap.get? x = none)
    {R : Value → Shared → Prop}
    (k : ∀ v ov b' s', X i v ov → (∀ vals, ov = some vals → ∃ T, v = .ref T ∧ b'.heap.IsTuple T vals) → Keeps b b' → At w L b' fr nw s' →
      (∀ fr' nw' s'', At w L b' fr' nw' s'' → At w L b fr' nw' s'' ∧ WS (i + 1) s''.heap ∧ ∀ p ∈ nw', p.1 ∉ fp) → R v s') :
    wpAny (model prog w) A (pyNext (.ref I)) (fun r s₁ => match r with | none => False | some v => wpAny (model prog w) A (letOwnedTupleGo target (.ref I) v) (fun _ => R v) FF s₁) FF s := by
  have hLw : L ∉ wr := fun q => hL (W.sub _ q)
  have hnww : ∀ p ∈ nw, p.1 ∉ wr := fun p hp q => hnw p hp (W.sub _ q)
  refine W.item i s _ hi hst fun v ov h' tk hX hT hst' hk => ?_
  have h1 : At w L b fr nw { s with heap := h', toks := tk } := hs.off hLw hnww hwr hk
  obtain ⟨b', kb, hb', hfz⟩ := h1.freeze (nf := nw) (fun _ hp => hp) h1.ndn
  have hlt := hs.lt
  refine k v ov b' _ hX (fun vals e => ?_) kb hb' fun fr' nw' s'' hs'' => ?_
  · obtain ⟨T, rfl, hsz, o, ho, r⟩ := hT vals e
    exact ⟨T, rfl, o, hfz T o (fun q => absurd hlt.1 (by rw [← q]; exact Nat.not_lt.mpr hsz)) (fun p hp q => absurd (hlt.2 p hp) (by rw [q]; exact Nat.not_lt.mpr hsz)) ho, r⟩
  · have hfp : ∀ x ∈ fp, ∀ o, h'.get? x = some o → b'.heap.get? x = some o := fun x hx o e => hfz x o (fun q => hL (q ▸ hx)) (fun p hp q => hnw p hp (q ▸ hx)) e
    refine ⟨hs''.rebase kb hs.gd, W.frame _ _ _ hst' fun x hx o e => hs''.keep _ _ (hfp x hx o e), fun p hp q => ?_⟩
    obtain ⟨o, e⟩ := W.alive _ _ hst' p.1 q
    obtain ⟨_, _, _, _, e4⟩ := hs''.N p hp
    rw [hfp p.1 q o e] at e4; cases e4

theorem for_wk {body orelse : List Stmt} {X : Nat → Value → Option (Array Value) → Prop} (W : Wk prog w A target I fp wr n X WS)
    {s : Shared} (J : Nat → Frm → Led → Prop) (hs : At w L b fr nw s) (hst : WS 0 s.heap) (hL : L ∉ fp) (hnw : ∀ p ∈ nw, p.1 ∉ fp) (hwr : ∀ x ∈ wr, b.heap.get? x = none) (h0 : J 0 fr nw)
    (turn : ∀ i v ov fr nw b', i < n → X i v ov → (∀ vals, ov = some vals → ∃ T, v = .ref T ∧ b'.heap.IsTuple T vals) → J i fr nw → Keeps b b' → St w L b' fr nw (wpAny (model prog w) A (assign target env v) (fun _ => wpAny (model prog w) A (execs body env) (LK w L b' (J (i + 1)) QF) FF) FF))
    (done : ∀ fr nw, J n fr nw → St w L b fr nw (wpAny (model prog w) A (execs orelse env) QF FF)) : FL prog w A target body orelse env QF E (.ref I) s := by
  unfold FL
  refine codeAny_forLoop_any (fun k s' => ∃ i fr nw, k = n + 1 - i ∧ i ≤ n ∧ At w L b fr nw s' ∧ WS i s'.heap ∧ (∀ p ∈ nw, p.1 ∉ fp) ∧ J i fr nw) ?_ (n + 1) ⟨0, fr, nw, rfl, Nat.zero_le _, hs, hst, hnw, h0⟩
  rintro k s' ⟨i, fr, nw, rfl, hi, hs, hst, hnw, hJ⟩
  have hLw : L ∉ wr := fun q => hL (W.sub _ q)
  have hnww : ∀ p ∈ nw, p.1 ∉ wr := fun p hp q => hnw p hp (W.sub _ q)
  by_cases hlt : i < n
  · refine wpAny_mono (draw W hlt hs hst hL hnw hwr (R := fun v s₁ => wpAny (model prog w) A (assign target env v) (fun _ => wpAny (model prog w) A (execs body env) (fun f s₃ => match f with
            | .next | .cont => ∃ m, m < n + 1 - i ∧ ∃ i fr nw, m = n + 1 - i ∧ i ≤ n ∧ At w L b fr nw s₃ ∧ WS i s₃.heap ∧ (∀ p ∈ nw, p.1 ∉ fp) ∧ J i fr nw
            | .brk => QF .next s₃
            | .ret v => QF (.ret v) s₃) FF) FF s₁) fun v ov b' s₁ hX hT kb hb' back => ?_) (fun r s₁ h₁ => ?_) fun _ _ x => x.elim
    · refine wpAny_mono (turn i v ov fr nw b' hlt hX hT hJ kb _ hb') (fun _ s₂ h₂ => wpAny_mono h₂ (fun f s₃ h₃ => ?_) fun _ _ x => x) fun _ _ x => x
      have fin : (∃ fr nw, J (i + 1) fr nw ∧ At w L b' fr nw s₃) → ∃ m, m < n + 1 - i ∧ ∃ i fr nw, m = n + 1 - i ∧ i ≤ n ∧ At w L b fr nw s₃ ∧ WS i s₃.heap ∧ (∀ p ∈ nw, p.1 ∉ fp) ∧ J i fr nw := by
        rintro ⟨fr', nw', hJ', hs'⟩
        obtain ⟨q1, q2, q3⟩ := back _ _ _ hs'
        exact ⟨n + 1 - (i + 1), by omega, i + 1, fr', nw', rfl, hlt, q1, q2, q3, hJ'⟩
      cases f with
      | next => exact fin h₃
      | cont => exact fin h₃
      | brk => exact h₃
      | ret v => exact h₃
    · cases r with
      | none => exact h₁.elim
      | some v =>
        refine wpAny_mono h₁ (fun _ s₂ h₂ => wpAny_mono h₂ (fun _ s₃ h₃ => wpAny_mono h₃ (fun f s₄ h₄ => ?_) fun _ _ x => x.elim) fun _ _ x => x.elim) fun _ _ x => x.elim
        cases f <;> exact h₄
  · have hin : i = n := by omega
    subst hin
    refine W.done s' _ _ hst fun h' tk hk => ?_
    exact wpAny_mono (done fr nw hJ _ (hs.off hLw hnww hwr hk)) (fun f s₃ h₃ => h₃) fun _ _ x => x.elim

/-- two names from a pair -/
theorem a_Tup2 {x y : Str} {px py pos : Pos} {k : Nat} {a : Addr} {v1 v2 : Value} {Q : Unit → Shared → Prop} (hh : A.handled = none) (ht : SeesT w L b fr nw a [v1, v2])
    (h : St w L b fr nw (wpAny (model prog w) A (storeName env x v1) (fun _ => wpAny (model prog w) A (storeName env y v2) Q E) E)) :
    St w L b fr nw (wpAny (model prog w) A (assign (.Tuple [.Name x px, .Name y py] k pos) env (.ref a)) Q E) := by
  refine a_Tup hh ht rfl rfl ?_
  show St w L b fr nw (wpAny (model prog w) A (assignInOrder [assign (.Name x px) env, assign (.Name y py) env] [v1, v2]) Q E)
  refine a_cons (fun s hs => wpAny_mono (h s hs) (fun _ s' h' => wpAny_assignInOrder_more (wpAny_assign_Name (wpAny_mono h' (fun _ s'' h'' => wpAny_assignInOrder_none h'') fun _ _ x => x))) fun _ _ x => x)

/-- for x, y in enumerate(list), the list standing in the base -/
theorem f_enum {elts : List Expr} {kk : Nat} {pt : Pos} {body orelse : List Stmt} {l : Addr} {vs : List Value} (hh : A.handled = none) (hl : b.heap.IsList l vs.toArray) (J : Nat → Frm → Led → Prop) (h0 : J 0 fr nw)
    (turn : ∀ i x T t fr nw b', vs[i]? = some x → b'.heap.IsTuple T #[.int i t, x] → J i fr nw → Keeps b b' → St w L b' fr nw (wpAny (model prog w) A (assign (.Tuple elts kk pt) env (.ref T)) (fun _ => wpAny (model prog w) A (execs body env) (LK w L b' (J (i + 1)) QF) FF) FF))
    (done : ∀ fr nw, J vs.length fr nw → St w L b fr nw (wpAny (model prog w) A (execs orelse env) QF FF)) :
    St w L b fr nw (wpAny (model prog w) A (call (.type "enumerate") [.ref l]) (fun x => wpAny (model prog w) A (pyIter x) (FL prog w A (.Tuple elts kk pt) body orelse env QF E) E) E) := fun s hs => by
  have hl' : s.heap.IsList l vs.toArray := let ⟨o, ho, r⟩ := hl; ⟨o, hs.keep _ _ ho, r⟩
  refine call_enumerate_list hl' fun h' he hit hsz hk => wpAny_pyIter_enum he ?_
  have hlt := hs.lt
  obtain ⟨ol, hol, _⟩ := hl
  obtain ⟨ol', hol', _⟩ := id hl'
  have hll := Heap.lt_size hol'
  have none_of : ∀ a, s.heap.objs.size ≤ a → b.heap.get? a = none := fun a ha => by
    cases q : b.heap.get? a with
    | none => rfl
    | some o => exact absurd (Heap.lt_size (hs.keep _ _ q)) (Nat.not_lt.mpr ha)
  have W := WalksT.enumerate (prog := prog) (w := w) (A := A) hh (s.heap.objs.size + 1) s.heap.objs.size l (Nat.succ_ne_self _) (Nat.ne_of_lt (Nat.lt_succ_of_lt hll)) (Nat.ne_of_lt hll) vs.toArray
  have hsz2 : vs.toArray.size = vs.length := by simp
  rw [hsz2] at W
  refine for_wk (n := vs.length) (Wk.ofT (elts := elts) (k := kk) (pos := pt) W ?_) J (hs.grow (h' := h') (tk := s.toks) hk) ⟨⟨_, he⟩, hit, (let ⟨o, ho, r⟩ := hl'; ⟨o, hk _ _ ho, r⟩)⟩ ?_ ?_ ?_ h0 ?_ done
  · rintro i h ⟨⟨old, he⟩, ⟨o1, h1, _⟩, ⟨o2, h2, _⟩⟩ x hx
    simp only [List.mem_cons, List.not_mem_nil, or_false] at hx
    rcases hx with rfl | rfl | rfl
    · exact ⟨_, he⟩
    · exact ⟨_, h1⟩
    · exact ⟨_, h2⟩
  · intro hm
    simp only [List.mem_cons, List.not_mem_nil, or_false] at hm
    rcases hm with e | e | e
    · exact Nat.ne_of_lt (Nat.lt_succ_of_lt hlt.1) e
    · exact Nat.ne_of_lt hlt.1 e
    · have q := hs.hL
      rw [e, hol] at q; cases q
  · intro p hp hm
    have hpl := hlt.2 p hp
    simp only [List.mem_cons, List.not_mem_nil, or_false] at hm
    rcases hm with e | e | e
    · exact Nat.ne_of_lt (Nat.lt_succ_of_lt hpl) e
    · exact Nat.ne_of_lt hpl e
    · obtain ⟨_, _, _, _, q⟩ := hs.N p hp
      rw [e, hol] at q; cases q
  · intro x hx
    simp only [List.mem_cons, List.not_mem_nil, or_false] at hx
    rcases hx with rfl | rfl
    · exact none_of _ (Nat.le_succ _)
    · exact none_of _ (Nat.le_refl _)
  · rintro i v ov fr nw b' hi ⟨vals, ⟨t, x, hx, rfl⟩, rfl⟩ hT hJ kb
    obtain ⟨T, rfl, hT'⟩ := hT _ rfl
    exact turn i x T t fr nw b' (by simpa using hx) hT' hJ kb
end
end Mine
end

-- C9
section
open PySem PySem.W PySem.Calls PyProof.Rows PySem.Builtin
set_option Elab.async false
set_option linter.unusedVariables false
set_option linter.unusedSimpArgs false
set_option maxRecDepth 20000
namespace Mine

section
variable {prog : Program} {w : World} {A : Around} {E : Value → Shared → Prop} {env : Env} {ns : List (Str × NameKind)} {b : Shared} {fr fr' : Frm} {nw nw' : Led} {QF : Flow → Shared → Prop} {Q : Value → Shared → Prop} {L : Addr} {t u : Tok}
variable {I : Addr} {fp wr : List Addr} {n : Nat} {WS : Nat → Heap → Prop} {target : Expr}

/-! ## cells -/
def SeesC (w : World) (L : Addr) (b : Shared) (fr : Frm) (nw : Led) (c : Addr) (v : Value) : Prop := ∀ s, At w L b fr nw s → s.heap.IsCell c (some v)
theorem seesC_nw {c : Addr} {v : Value} (h : Has nw c (.cell (some v))) : SeesC w L b fr nw c v := fun s hs => hs.get h
theorem seesC_b {c : Addr} {v : Value} (h : b.heap.IsCell c (some v)) : SeesC w L b fr nw c v := fun s hs => let ⟨o, ho, r⟩ := h; ⟨o, hs.keep _ _ ho, r⟩
theorem r_cell {x : Str} {pos : Pos} {v : Value} {c : Addr} (hE : EnvOk env ns) (hk : Has ns x .cell) (hc : env.cells.lookup x = some c) (hv : SeesC w L b fr nw c v) (k : St w L b fr nw (Q v)) : St w L b fr nw (wpAny (model prog w) A (eval (.Name x pos) env) Q E) := fun s h =>
  wpAny_Name (wpAny_loadName_cell hE.kind (hE.kindOf hk) hc (hv s h) (k s h)) (hE.dbg hk)
theorem r_storeC {x : Str} {v : Value} {c : Addr} {Q : Unit → Shared → Prop} (hE : EnvOk env ns) (hk : Has ns x .cell) (hc : env.cells.lookup x = some c) {v₀ : Option Value} (hh : Has nw c (.cell v₀)) (hp : Put nw c (.cell (some v)) nw') (k : St w L b fr nw' (Q ())) : St w L b fr nw (wpAny (model prog w) A (storeName env x v) Q E) := fun s h =>
  wpAny_storeName_cell hE.kind (hE.kindOf hk) hc (h.get hh) fun h' hc' hs => by
    obtain ⟨o, ho, hd⟩ := hc'
    exact k _ (h.change (tk := s.toks) hp hs ho hd)

/-! ## comprehensions -/
/-- what the inner frame's base sees of the outer -/
def Up (w : World) (L : Addr) (b : Shared) (fr : Frm) (nw : Led) (b' : Shared) : Prop := ∃ s₀, At w L b fr nw s₀ ∧ Le s₀.heap b'.heap
theorem Up.list {b' : Shared} {a : Addr} {us : List Value} (h : Up w L b fr nw b') (hs : SeesL w L b fr nw a us) : b'.heap.IsList a us.toArray := let ⟨s₀, h1, h2⟩ := h; let ⟨o, ho, r⟩ := hs s₀ h1; ⟨o, h2 _ _ ho, r⟩
theorem Up.tup {b' : Shared} {a : Addr} {us : List Value} (h : Up w L b fr nw b') (hs : SeesT w L b fr nw a us) : b'.heap.IsTuple a us.toArray := let ⟨s₀, h1, h2⟩ := h; let ⟨o, ho, r⟩ := hs s₀ h1; ⟨o, h2 _ _ ho, r⟩
theorem Up.cell {b' : Shared} {c : Addr} {v : Value} (h : Up w L b fr nw b') (hs : SeesC w L b fr nw c v) : b'.heap.IsCell c (some v) := let ⟨s₀, h1, h2⟩ := h; let ⟨o, ho, r⟩ := hs s₀ h1; ⟨o, h2 _ _ ho, r⟩

/-- the names of a comprehension's scope, with the outer's cells named so -/
def relN (names ns : List (Str × NameKind)) : List (Str × NameKind) := names.map fun (n, k) => if (k == .free && ns.lookup n == some .cell) then (n, .cell) else (n, k)
theorem relabel_names (hE : EnvOk env ns) (scope : Scope) : (relabel scope env).names = relN scope.names ns := by
  unfold relabel relN
  have e : (env.scope.kind == ScopeKind.function) = true := by rw [hE.kind]; rfl
  simp only [e, Env.kindOf, hE.names, Bool.and_true]

/-- the cells that a comprehension takes over -/
def closOf : List (Str × NameKind) → List (Str × Addr) → List (Str × Addr) → List (Str × Addr)
  | [], _, acc => acc
  | (x, k) :: r, cs, acc => if k == .free then closOf r cs ((x, (cs.lookup x).getD 0) :: acc) else closOf r cs acc
theorem closureFor_go (cs : List (Str × Addr)) (hcs : env.cells = cs) (f : Str × NameKind → List (Str × Addr) → Sem (ForInStep (List (Str × Addr))))
    (hf : ∀ x k acc, f (x, k) acc = if k == .free then (do let a ← cellOf env x; pure (.yield ((x, a) :: acc))) else pure (.yield acc)) :
    ∀ (names : List (Str × NameKind)) (acc : List (Str × Addr)), (names.all fun p => !(p.2 == .free) || (cs.lookup p.1).isSome) = true → forIn names acc f = (pure (closOf names cs acc) : Sem _)
  | [], acc, _ => by rw [List.forIn_nil]; rfl
  | (x, k) :: r, acc, h => by
    simp only [List.all_cons, Bool.and_eq_true] at h
    rw [List.forIn_cons, hf]
    unfold closOf
    cases hk : k == NameKind.free with
    | false =>
      simp only [Bool.false_eq_true, if_false, pure_bind]
      exact closureFor_go cs hcs f hf r acc h.2
    | true =>
      have h1 := h.1
      rw [hk] at h1
      simp only [Bool.not_true, Bool.false_or] at h1
      obtain ⟨c, hc⟩ := Option.isSome_iff_exists.mp h1
      have e : cellOf env x = pure c := by unfold cellOf; rw [hcs, hc]
      simp only [if_true, e, pure_bind, hc, Option.getD_some]
      exact closureFor_go cs hcs f hf r _ h.2
theorem closureFor_is {cs : List (Str × Addr)} (hcs : env.cells = cs) (scope : Scope) (h : (scope.names.all fun p => !(p.2 == .free) || (cs.lookup p.1).isSome) = true) : closureFor scope env = pure (closOf scope.names cs []) := by
  unfold closureFor
  dsimp only
  rw [closureFor_go cs hcs _ (fun x k acc => by cases hk : k == NameKind.free <;> simp [hk]) scope.names [] h]
  rfl

/-- what a comprehension does with its iterator -/
def CL (prog : Program) (w : World) (A : Around) (elt target iter : Expr) (scope : Scope) (pos : Pos) (env : Env) (use : Option (Value → Sem Unit)) (Q : Value → Shared → Prop) (E : Value → Shared → Prop) (it : Value) (s : Shared) : Prop :=
  wpAny (model prog w) A (newList []) (fun acc s₃ => wpAny (model prog w) A (newFunctionEnv scope env.globals (closOf scope.names env.cells []) [] env.qual none .none (some env)) (fun cenv s₄ =>
    codeAny (model prog w) A (.compStart (.ListComp elt [⟨target, iter, [], 0⟩] scope pos) 0 it acc { cenv with scope := relabel scope env }) (compPost (model prog w) A E use Q acc cenv.locals) s₄) E s₃) E s
theorem r_ListComp {elt iter : Expr} {scope : Scope} {pos : Pos} (h : St w L b fr nw (wpAny (model prog w) A (eval iter env) (fun x => wpAny (model prog w) A (pyIter x) (CL prog w A elt target iter scope pos env none Q E) E) E))
    (hs : ∀ x, foldedSetIterable iter env x = pure x) (hclo : (scope.names.all fun p => !(p.2 == .free) || (env.cells.lookup p.1).isSome) = true) (hkind : scope.kind = .function)
    (hnames : (scope.names.all fun x => !(x.2 == .local) || (scope.names.lookup x.1 == some .local)) = true) :
    St w L b fr nw (wpAny (model prog w) A (eval (.ListComp elt [⟨target, iter, [], 0⟩] scope pos) env) Q E) := fun s hs' => by
  rw [eval_ListComp]
  refine wpAny_comprehension_free (use := none) rfl hs (closureFor_is rfl scope hclo) hkind (fun x hx hl => ?_) (h s hs')
  have := List.all_eq_true.mp hnames x hx
  rw [hl] at this
  simpa using this
theorem s_AssignComp {elt iter : Expr} {scope : Scope} {y : Str} {py pos spos : Pos} (h : St w L b fr nw (wpAny (model prog w) A (eval iter env) (fun x => wpAny (model prog w) A (pyIter x) (CL prog w A elt target iter scope pos env (some (assign (.Name y py) env)) (fun _ => QF .next) E) E) E))
    (hsw : swapsWith (.ListComp elt [⟨target, iter, [], 0⟩] scope pos) (some (.Name y py)) spos.line env = pure true)
    (hs : ∀ x, foldedSetIterable iter env x = pure x) (hclo : (scope.names.all fun p => !(p.2 == .free) || (env.cells.lookup p.1).isSome) = true) (hkind : scope.kind = .function)
    (hnames : (scope.names.all fun x => !(x.2 == .local) || (scope.names.lookup x.1 == some .local)) = true) :
    St w L b fr nw (wpAny (model prog w) A (exec (.Assign [.Name y py] (.ListComp elt [⟨target, iter, [], 0⟩] scope pos) spos) env) QF E) := fun s hs' => by
  rw [exec_Assign_Name_used _ _ _ _ hsw]
  refine wpAny_bind (wpAny_standAt (wpAny_bind ?_))
  show wpAny _ A (do let _ ← comprehension (.ListComp elt [⟨target, iter, [], 0⟩] scope pos) scope env _ (newList []) false (eval iter env) (some (assign (.Name y py) env))) _ _ s
  refine wpAny_bind (wpAny_mono (wpAny_comprehension_free (use := some (assign (.Name y py) env)) (Q := fun _ s' => QF .next s') rfl hs (closureFor_is rfl scope hclo) hkind (fun x hx hl => ?_) (h s hs')) (fun _ s' hq => wpAny_pure (wpAny_pure hq)) fun _ _ e => e)
  have := List.all_eq_true.mp hnames x hx
  rw [hl] at this
  simpa using this

/-- a turn's end in a comprehension -/
def EK (w : World) (L : Addr) (b : Shared) (D : Addr) (ys : List Value) (J : Frm → Led → List Value → Prop) (x : Value) (s : Shared) : Prop := ∃ fr nw, J fr nw (ys ++ [x]) ∧ At w L b fr ((D, .list ys) :: nw) s
theorem ek {D : Addr} {ys : List Value} {x : Value} {J : Frm → Led → List Value → Prop} (h : J fr nw (ys ++ [x])) : St w L b fr ((D, .list ys) :: nw) (EK w L b D ys J x) := fun s hs => ⟨fr, nw, h, hs⟩
theorem ek1 {D : Addr} {p : Addr × Mine.D} {ys : List Value} {x : Value} {J : Frm → Led → List Value → Prop} (h : J fr (p :: nw) (ys ++ [x])) : St w L b fr (p :: (D, .list ys) :: nw) (EK w L b D ys J x) := fun s hs => ⟨fr, p :: nw, h,
  hs.sub (fun _ h => h) hs.ndf (fun q hq => by
    rcases List.mem_cons.mp hq with rfl | hq
    · exact .tail _ (.head _)
    · rcases List.mem_cons.mp hq with rfl | hq
      · exact .head _
      · exact .tail _ (.tail _ hq)) (by
    have := hs.ndn
    simp only [List.map_cons, List.nodup_cons, List.mem_cons, not_or] at this ⊢
    exact ⟨⟨Ne.symm this.1.1, this.2.1⟩, this.1.2, this.2.2⟩)⟩

theorem codeAny_compLoop_any {R : Result → Shared → Prop} {s : Shared} {elt iter : Expr} {scope : Scope} {pos : Pos} {it acc : Value} (I : Nat → Shared → Prop)
    (turn : ∀ n s, I n s → wpAny (model prog w) A (pyNext it) (fun r s₁ => match r with
      | none => R (.ok .next) s₁
      | some v => wpAny (model prog w) A (letOwnedTupleGo target it v) (fun _ s₁' => wpAny (model prog w) A (assign target env v) (fun _ s₂ => wpAny (model prog w) A (eval elt env) (fun x s₃ =>
          wpAny (model prog w) A (call (.builtin "list.append") [acc, x]) (fun _ s₄ => ∃ m, m < n ∧ I m s₄) FF s₃) FF s₂) FF s₁') FF s₁) FF s)
    (n : Nat) (h : I n s) : codeAny (model prog w) A (.compLoop (.ListComp elt [⟨target, iter, [], 0⟩] scope pos) 0 it acc env) R s := by
  refine codeAny_loop rfl I (fun n s hI => ?_) n h
  show wpAny _ A ((compTurn (.ListComp elt [⟨target, iter, [], 0⟩] scope pos) 0 it acc env).onRaise (fun x => do noteFrame x env; theTreesLotGoes x)) _ _ s
  refine wpAny_noted ?_
  rw [compTurn_list1]
  refine wpAny_bind (wpAny_standAt (wpAny_bind (wpAny_mono (turn n s hI) (fun r s₁ h₁ => ?_) fun _ _ h' => h'.elim)))
  cases r with
  | none => exact wpAny_pure h₁
  | some v =>
    exact wpAny_bind (wpAny_mono h₁ (fun _ s₁' h₁' => wpAny_bind (wpAny_mono h₁' (fun _ s₂ h₂ => wpAny_bind (wpAny_bind (wpAny_mono h₂ (fun x s₃ h₃ => wpAny_bind (wpAny_mono h₃
      (fun _ s₄ h₄ => wpAny_pure (wpAny_pure ⟨rfl, h₄⟩)) fun _ _ h' => h'.elim)) fun _ _ h' => h'.elim))) fun _ _ h' => h'.elim)) fun _ _ h' => h'.elim)

theorem comp_loop {R : Result → Shared → Prop} {s : Shared} {elt iter : Expr} {scope : Scope} {pos : Pos} {D : Addr} {X : Nat → Value → Option (Array Value) → Prop} (W : Wk prog w A target I fp wr n X WS) (hn : n < 2 ^ 20) (J : Nat → Frm → Led → List Value → Prop)
    (hs : At w L b fr ((D, .list []) :: nw) s) (hst : WS 0 s.heap) (hL : L ∉ fp) (hnw : ∀ p ∈ (D, Mine.D.list []) :: nw, p.1 ∉ fp) (hwr : ∀ x ∈ wr, b.heap.get? x = none) (h0 : J 0 fr nw [])
    (turn : ∀ i v ov fr nw ys b', i < n → X i v ov → (∀ vals, ov = some vals → ∃ T, v = .ref T ∧ b'.heap.IsTuple T vals) → J i fr nw ys → Keeps b b' → ys.length = i → St w L b' fr ((D, .list ys) :: nw) (wpAny (model prog w) A (assign target env v) (fun _ => wpAny (model prog w) A (eval elt env) (EK w L b' D ys (J (i + 1))) FF) FF))
    (done : ∀ fr nw ys s', J n fr nw ys → ys.length = n → At w L b fr ((D, .list ys) :: nw) s' → R (.ok .next) s') :
    codeAny (model prog w) A (.compLoop (.ListComp elt [⟨target, iter, [], 0⟩] scope pos) 0 (.ref I) (.ref D) env) R s := by
  refine codeAny_compLoop_any (fun k s' => ∃ i fr nw ys, k = n + 1 - i ∧ i ≤ n ∧ At w L b fr ((D, .list ys) :: nw) s' ∧ WS i s'.heap ∧ (∀ p ∈ (D, Mine.D.list ys) :: nw, p.1 ∉ fp) ∧ J i fr nw ys ∧ ys.length = i) ?_ (n + 1) ⟨0, fr, nw, [], rfl, Nat.zero_le _, hs, hst, hnw, h0, rfl⟩
  rintro k s' ⟨i, fr, nw, ys, rfl, hi, hs, hst, hnw, hJ, hlen⟩
  have hLw : L ∉ wr := fun q => hL (W.sub _ q)
  have hnww : ∀ p ∈ (D, Mine.D.list ys) :: nw, p.1 ∉ wr := fun p hp q => hnw p hp (W.sub _ q)
  by_cases hlt : i < n
  · refine wpAny_mono (draw W hlt hs hst hL hnw hwr (R := fun v s₁ => wpAny (model prog w) A (assign target env v) (fun _ s₂ => wpAny (model prog w) A (eval elt env) (fun x s₃ =>
          wpAny (model prog w) A (call (.builtin "list.append") [.ref D, x]) (fun _ s₄ => ∃ m, m < n + 1 - i ∧ ∃ i fr nw ys, m = n + 1 - i ∧ i ≤ n ∧ At w L b fr ((D, .list ys) :: nw) s₄ ∧ WS i s₄.heap ∧ (∀ p ∈ (D, Mine.D.list ys) :: nw, p.1 ∉ fp) ∧ J i fr nw ys ∧ ys.length = i) FF s₃) FF s₂) FF s₁) fun v ov b' s₁ hX hT kb hb' back => ?_) (fun r s₁ h₁ => ?_) fun _ _ x => x.elim
    · refine wpAny_mono (turn i v ov fr nw ys b' hlt hX hT hJ kb hlen _ hb') (fun _ s₂ h₂ => wpAny_mono h₂ (fun x s₃ h₃ => ?_) fun _ _ x => x) fun _ _ x => x
      obtain ⟨fr', nw', hJ', hs'⟩ := h₃
      refine c_append (w := w) (L := L) (b := b') (fr := fr') (nw := (D, .list ys) :: nw') Has.here (by omega) Put.here (fun s₄ h₄ => ?_) s₃ hs'
      obtain ⟨q1, q2, q3⟩ := back _ _ _ h₄
      exact ⟨n + 1 - (i + 1), by omega, i + 1, fr', nw', ys ++ [x], rfl, hlt, q1, q2, q3, hJ', by simp [hlen]⟩
    · cases r with
      | none => exact h₁.elim
      | some v => exact h₁
  · have hin : i = n := by omega
    subst hin
    exact W.done s' _ _ hst fun h' tk hk => done fr nw ys _ hJ hlen (hs.off hLw hnww hwr hk)
end
end Mine
end

-- C10
section
open PySem PySem.W PySem.Calls PyProof.Rows PySem.Builtin
set_option Elab.async false
set_option linter.unusedVariables false
set_option linter.unusedSimpArgs false
set_option maxRecDepth 20000
namespace Mine

section
variable {prog : Program} {w : World} {A : Around} {E : Value → Shared → Prop} {env : Env} {ns : List (Str × NameKind)} {b : Shared} {fr fr' : Frm} {nw nw' : Led} {QF : Flow → Shared → Prop} {Q : Value → Shared → Prop} {L : Addr} {t u : Tok}
variable {I : Addr} {fp wr : List Addr} {n : Nat} {WS : Nat → Heap → Prop} {target : Expr}

theorem newEnv_layed {M : Model} {s : Shared} {scope : Scope} {globals : Addr} {cl : List (Str × Addr)} {qual : Str} {Q : Env → Shared → Prop}
    (h : Q (newEnv scope s.heap.objs.size globals (cellsFrom (s.heap.objs.size + 1) scope.names cl) qual none .none (some env) builtinsNs) { s with heap := pushCells (s.heap.push { cls := .type "dict", data := .dict #[] }) scope.names }) :
    wpAny M A (newFunctionEnv scope globals cl [] qual none .none (some env)) Q E s := by
  simp only [newFunctionEnv, Option.isSome_some, if_true]
  refine wpAny_bind (wpAny_alloc ?_)
  refine wpAny_bind (wpAny_layCells _ (fun name kind cells => by cases hkc : kind == NameKind.cell <;> simp [hkc]) _ _ _ _ ?_)
  rw [show ({ s with heap := s.heap.push { cls := .type "dict", data := .dict #[] } } : Shared).heap.objs.size = s.heap.objs.size + 1 from Heap.size_push ..]
  refine wpAny_bind ?_
  rw [List.forIn_nil]
  exact wpAny_pure (wpAny_pure h)

/-- inner and outer together -/
theorem At.merge {s₀ b₂ s' : Shared} {C : Addr} {frc : Frm} {nwc : Led} (ho : At w L b fr nw s₀) (kb : Keeps s₀ b₂) (hi : At w C b₂ frc nwc s') :
    At w L b fr (nwc ++ nw) s' ∧ C ≠ L ∧ (∀ p ∈ nwc ++ nw, p.1 ≠ C) ∧ b.heap.get? C = none := by
  have hle := Keeps.le kb
  obtain ⟨m, hm, hf⟩ := ho.ns
  obtain ⟨oL, esL, epL, hoL, restL⟩ := id hm
  have out : ∀ a o, s₀.heap.get? a = some o → s'.heap.get? a = some o := fun a o e => hi.keep _ _ (hle _ _ e)
  have no : ∀ a, b₂.heap.get? a = none → b.heap.get? a = none := fun a e => by
    cases q : b.heap.get? a with
    | none => rfl
    | some o => exact nomatch e.symm.trans (hle _ _ (ho.keep _ _ q))
  have noC : ∀ a o, s₀.heap.get? a = some o → a ≠ C := fun a o e q => by
    rw [q] at e
    exact nomatch hi.hL.symm.trans (hle _ _ e)
  refine ⟨⟨ho.gd, ⟨m, hm.at' fun o e => out _ _ e, hf⟩, fun a o e => out _ _ (ho.keep _ _ e), ho.hL, ho.ndf, fun p hp => ?_, ?_, ?_⟩, fun q => noC L oL hoL q.symm, fun p hp => ?_, no _ hi.hL⟩
  · rcases List.mem_append.mp hp with hp | hp
    · obtain ⟨o, h1, h2, h3, h4⟩ := hi.N p hp
      refine ⟨o, h1, h2, fun q => ?_, no _ h4⟩
      rw [q] at h4
      exact nomatch h4.symm.trans (hle _ _ hoL)
    · obtain ⟨o, h1, h2, h3, h4⟩ := ho.N p hp
      exact ⟨o, out _ _ h1, h2, h3, h4⟩
  · rw [List.map_append]
    refine List.nodup_append.mpr ⟨hi.ndn, ho.ndn, fun a ha c hc q => ?_⟩
    obtain ⟨p, hp, rfl⟩ := List.mem_map.mp ha
    obtain ⟨p', hp', rfl⟩ := List.mem_map.mp hc
    obtain ⟨_, _, _, _, h4⟩ := hi.N p hp
    obtain ⟨o, h1, _⟩ := ho.N p' hp'
    rw [q] at h4
    exact nomatch h4.symm.trans (hle _ _ h1)
  · obtain ⟨h₂, t₂, rfl, _⟩ := kb
    rw [hi.eqv]
    show ({ s₀ with heap := s'.heap, toks := s'.toks } : Shared) = _
    rw [ho.eqv]
  · rcases List.mem_append.mp hp with hp | hp
    · obtain ⟨_, _, _, h3, _⟩ := hi.N p hp
      exact h3
    · obtain ⟨o, h1, _⟩ := ho.N p hp
      exact noC _ _ h1

theorem comp_core {s₀ : Shared} {h₂ : Heap} {tk : Nat} {elt iter : Expr} {scope : Scope} {pos : Pos} {X : Nat → Value → Option (Array Value) → Prop} (W : Wk prog w A target I fp wr n X WS) (hn : n < 2 ^ 20)
    (hE : EnvOk env ns) (hs : At w L b fr nw s₀) (k2 : Le s₀.heap h₂) (hst : WS 0 h₂) (hwr : ∀ x ∈ wr, s₀.heap.get? x = none)
    (ns' : List (Str × NameKind)) (hns : relN scope.names ns = ns') (hk : scope.kind = .function) (ndn : (ns'.map (·.1)).Nodup ∧ Str.ofString "__debug__" ∉ ns'.map (·.1))
    (frc : Frm) (hfrc : frc.all (fun p => p.2.isNone) = true) (ndf : (frc.map (·.1)).Nodup)
    (cs' : Addr → List (Str × Addr)) (own : Addr → Led) (hcs : ∀ C, cellsFrom (C + 1) scope.names (closOf scope.names env.cells []) = cs' C)
    (hown : (own = fun _ => []) ∧ (∀ h, pushCells h scope.names = h) ∨ (own = fun C => [(C + 1, .cell none)]) ∧ (∀ h, pushCells h scope.names = h.push { cls := .type "cell", data := .cell none }))
    (J : Addr → Nat → Frm → Led → List Value → Prop) (h0 : ∀ C, J C 0 frc (own C) [])
    (turn : ∀ D cenv i v ov fr' nw' ys b', EnvOk cenv ns' → cenv.cells = cs' cenv.locals → i < n → X i v ov → (∀ vals, ov = some vals → ∃ T, v = .ref T ∧ b'.heap.IsTuple T vals) → J cenv.locals i fr' nw' ys → Up w L b fr nw b' → ys.length = i →
      St w cenv.locals b' fr' ((D, .list ys) :: nw') (wpAny (model prog w) A (assign target cenv v) (fun _ => wpAny (model prog w) A (eval elt cenv) (EK w cenv.locals b' D ys (J cenv.locals (i + 1))) FF) FF))
    {RR : Value → Addr → Result → Shared → Prop}
    (hRR : ∀ D C fr' nw' ys s', J C n fr' nw' ys → ys.length = n → At w L b fr ((D, .list ys) :: (nw' ++ nw)) s' → C ≠ L → (∀ p ∈ (D, Mine.D.list ys) :: (nw' ++ nw), p.1 ≠ C) → b.heap.get? C = none → (∃ m, s'.heap.Ns C m) → RR (.ref D) C (.ok .next) s') :
    wpAny (model prog w) A (newList []) (fun acc s₃ => wpAny (model prog w) A (newFunctionEnv scope env.globals (closOf scope.names env.cells []) [] env.qual none .none (some env)) (fun cenv s₄ =>
      codeAny (model prog w) A (.compStart (.ListComp elt [⟨target, iter, [], 0⟩] scope pos) 0 (.ref I) acc { cenv with scope := relabel scope env }) (RR acc cenv.locals) s₄) E s₃) E { s₀ with heap := h₂, toks := tk } := by
  refine wpAny_newObj_type (newEnv_layed ?_)
  dsimp only [newEnv]
  generalize hH3 : h₂.push { cls := .type "list", dict := none, data := .seq ([] : List Value).toArray } = h₃
  have hz3 : h₃.objs.size = h₂.objs.size + 1 := by rw [← hH3, Heap.size_push]
  have hD3 : h₃.get? h₂.objs.size = some { cls := .type "list", dict := none, data := .seq ([] : List Value).toArray } := hH3 ▸ Heap.get?_push_size _ rfl
  have k3 : Le h₂ h₃ := fun a o e => hH3 ▸ Heap.get?_push_of_some _ e
  generalize hH4 : h₃.push { cls := .type "dict", data := .dict #[] } = h₄
  have hz4 : h₄.objs.size = h₃.objs.size + 1 := by rw [← hH4, Heap.size_push]
  have hC4 : h₄.Ns h₃.objs.size fun _ => none := hH4 ▸ Heap.Ns.new h₃ _
  have k4 : Le h₃ h₄ := fun a o e => hH4 ▸ Heap.get?_push_of_some _ e
  have k5 : Le h₄ (pushCells h₄ scope.names) := fun a o e => pushCells_keeps _ _ a o e
  rw [hcs]
  -- the inner base
  generalize hb2 : ({ s₀ with heap := hideAll h₂ wr, toks := tk } : Shared) = b₂
  have hbh : b₂.heap = hideAll h₂ wr := by rw [← hb2]
  have kb2 : Le s₀.heap b₂.heap := fun a o e => by
    rw [hbh]
    exact hideAll_get _ (k2 _ _ e) fun q => by rw [hwr a q] at e; cases e
  have kk : Keeps s₀ b₂ := ⟨_, _, hb2.symm.trans (by rw [hbh]), kb2⟩
  have b2le : Le b₂.heap (pushCells h₄ scope.names) := fun a o e => by
    rw [hbh] at e
    exact k5 _ _ (k4 _ _ (k3 _ _ (of_hideAll _ e)))
  have b2lt : ∀ a, h₂.objs.size ≤ a → b₂.heap.get? a = none := fun a ha => by
    cases q : b₂.heap.get? a with
    | none => rfl
    | some o => rw [hbh] at q; exact absurd (Heap.lt_size (of_hideAll _ q)) (Nat.not_lt.mpr ha)
  have hle23 : h₂.objs.size ≤ h₃.objs.size := by rw [hz3]; exact Nat.le_succ _
  have hDC : h₂.objs.size ≠ h₃.objs.size := by rw [hz3]; exact Nat.ne_of_lt (Nat.lt_succ_self _)
  have hat : At w h₃.objs.size b₂ frc ((h₂.objs.size, .list []) :: own h₃.objs.size) { s₀ with heap := pushCells h₄ scope.names, toks := tk } := by
    refine ⟨hs.gds.mono kb2, ⟨_, hC4.keeps k5, fun p hp => ?_⟩, b2le, b2lt _ hle23, ndf, ?_, ?_, by rw [← hb2]⟩
    · have := List.all_eq_true.mp hfrc p hp
      exact (Option.isNone_iff_eq_none.mp this).symm
    · intro p hp
      rcases List.mem_cons.mp hp with rfl | hp
      · exact ⟨_, k5 _ _ (k4 _ _ hD3), ⟨0, rfl⟩, hDC, b2lt _ (Nat.le_refl _)⟩
      · rcases hown with ⟨rfl, _⟩ | ⟨rfl, hp'⟩
        · cases hp
        · obtain rfl := List.mem_singleton.mp hp
          refine ⟨{ cls := .type "cell", data := .cell none }, ?_, (rfl : Data.cell none = .cell none), Nat.succ_ne_self _, b2lt _ (Nat.le_trans hle23 (Nat.le_succ _))⟩
          · show (pushCells h₄ scope.names).get? (h₃.objs.size + 1) = _
            rw [hp', ← hz4]
            exact Heap.get?_push_size _ rfl
    · rcases hown with ⟨rfl, _⟩ | ⟨rfl, hp'⟩
      · simp
      · simp only [List.map_cons, List.map_nil, List.nodup_cons, List.mem_singleton, List.not_mem_nil, not_false_eq_true, List.nodup_nil, and_self, and_true]
        rw [hz3]
        exact Nat.ne_of_lt (Nat.lt_succ_of_lt (Nat.lt_succ_self _))
  have hEc : EnvOk { scope := relabel scope env, locals := h₃.objs.size, globals := env.globals, cells := cs' h₃.objs.size, qual := env.qual, func := none, code := env.code, frame := env.frame, builtins := env.builtins } ns' :=
    ⟨hk, (relabel_names hE scope).trans hns, ndn.1, ndn.2, hE.glob, hE.blt⟩
  have hstp : WS 0 (pushCells h₄ scope.names) := W.frame _ _ _ hst fun a _ o e => k5 _ _ (k4 _ _ (k3 _ _ e))
  have fplt : ∀ x ∈ fp, x < h₂.objs.size := fun x hx => let ⟨o, e⟩ := W.alive _ _ hst x hx; Heap.lt_size e
  have loop : codeAny (model prog w) A (.compLoop (.ListComp elt [⟨target, iter, [], 0⟩] scope pos) 0 (.ref I) (.ref h₂.objs.size) { scope := relabel scope env, locals := h₃.objs.size, globals := env.globals, cells := cs' h₃.objs.size, qual := env.qual, func := none, code := env.code, frame := env.frame, builtins := env.builtins })
      (RR (.ref h₂.objs.size) h₃.objs.size) { s₀ with heap := pushCells h₄ scope.names, toks := tk } := by
    refine comp_loop W hn (J h₃.objs.size) hat hstp (fun q => absurd (fplt _ q) (Nat.not_lt.mpr hle23)) (fun p hp q => ?_) (fun x hx => by rw [hbh]; exact hideAll_none _ hx) (h0 _) (fun i v ov fr' nw' ys b' hi hX hT hJ kb hl => ?_) fun fr' nw' ys s' hJ hl hat' => ?_
    · rcases List.mem_cons.mp hp with rfl | hp
      · exact Nat.lt_irrefl _ (fplt _ q)
      · rcases hown with ⟨rfl, _⟩ | ⟨rfl, _⟩
        · cases hp
        · obtain rfl := List.mem_singleton.mp hp
          exact absurd (fplt _ q) (Nat.not_lt.mpr (Nat.le_trans hle23 (Nat.le_succ _)))
    · exact turn _ _ i v ov fr' nw' ys b' hEc rfl hi hX hT hJ ⟨s₀, hs, fun a o e => Keeps.le kb _ _ (kb2 _ _ e)⟩ hl
    · obtain ⟨m1, m2, m3, m4⟩ := hs.merge kk hat'
      exact hRR _ _ fr' nw' ys s' hJ hl m1 m2 m3 m4 (let ⟨m, hm, _⟩ := hat'.ns; ⟨m, hm⟩)
  exact codeAny_compStart_list loop (W.self 0 _ _ _ hstp loop)
end
end Mine
end

-- C11
section
open PySem PySem.W PySem.Calls PyProof.Rows PySem.Builtin
set_option Elab.async false
set_option linter.unusedVariables false
set_option linter.unusedSimpArgs false
set_option maxRecDepth 20000
namespace Mine

section
variable {prog : Program} {w : World} {A : Around} {E : Value → Shared → Prop} {env : Env} {ns : List (Str × NameKind)} {b : Shared} {fr fr' : Frm} {nw nw' : Led} {QF : Flow → Shared → Prop} {Q : Value → Shared → Prop} {L : Addr} {t u : Tok}
variable {n : Nat} {target : Expr} {K : Value → Shared → Prop}

/-- whatever iterator walks so -/
def Itr (prog : Program) (w : World) (A : Around) (L : Addr) (b : Shared) (fr : Frm) (nw : Led) (target : Expr) (n : Nat) (X : Nat → Value → Option (Array Value) → Prop) (K : Value → Shared → Prop) : Prop :=
  ∀ s₀ h₂ tk I fp wr WS, At w L b fr nw s₀ → Le s₀.heap h₂ → Wk prog w A target I fp wr n X WS → WS 0 h₂ → (∀ x ∈ wr, s₀.heap.get? x = none) → K (.ref I) { s₀ with heap := h₂, toks := tk }

theorem it_range {x : Str} {px : Pos} {a : Addr} {n : Nat} {t0 t1 t2 : Tok} (hh : A.handled = none) (hn : n < 2 ^ 30) (k : Itr prog w A L b fr nw (.Name x px) n (fun i v ov => (∃ t, v = .int (i : Int) t) ∧ ov = none) K) :
    St w L b fr ((a, .obj (rgO 0 (n : Int) 1 t0 t1 t2)) :: nw) (wpAny (model prog w) A (pyIter (.ref a)) K E) := fun s hs' => by
  obtain ⟨o, ho, rfl, _⟩ := hs'.get Has.here
  have hs : At w L b fr nw s := hs'.sub (fun p hp => hp) hs'.ndf (fun p hp => .tail _ hp) (by have := hs'.ndn; simp only [List.map_cons, List.nodup_cons] at this; exact this.2)
  have hsz : Builtin.Range.rangeSize 0 (n : Int) 1 = n := by rw [rangeSize_one]; split <;> omega
  refine wpAny_pyIter_range (a := 0) (b := n) (c := 1) ho ?_ ?_
  · unfold Builtin.Range.small
    rw [hsz]
    simp [Builtin.Range.rangeFitsLong]
    omega
  · rw [hsz]
    have W := Walks.range (prog := prog) (w := w) hh s.heap.objs.size 0 1 n
    have W' : Wk prog w A (.Name x px) s.heap.objs.size [s.heap.objs.size] [s.heap.objs.size] n (fun i v ov => (∃ t, v = .int (i : Int) t) ∧ ov = none) (fun i h => IsRangeIter h s.heap.objs.size (0 + (i : Nat) * 1) ((n : Int) - (i : Nat)) 1) := by
      have := Wk.of (target := .Name x px) W (fun i h e x hx => by obtain rfl := List.mem_singleton.mp hx; exact ⟨_, e⟩) (fun _ _ _ _ _ _ hq => wpAny_pure hq)
      have e : ∀ i : Nat, (0 : Int) + (i : Int) * 1 = i := fun i => by omega
      simpa only [e] using this
    refine k s (s.heap.push _) s.toks _ _ _ _ hs (fun _ _ e => Heap.get?_push_of_some _ e) W' ?_ (fun y hy => by rw [List.mem_singleton.mp hy]; exact fresh_size _)
    show IsRangeIter _ _ _ _ _
    unfold IsRangeIter
    have := Heap.get?_push_size s.heap (o := { cls := .type "range_iterator", data := .fields #[rawInt 0, rawInt (n : Int), rawInt 1] }) rfl
    simpa using this

/-- a name, or a row of targets -/
def Tgt (target : Expr) : Prop := (∃ x px, target = .Name x px) ∨ ∃ elts k pos, target = .Tuple elts k pos
theorem go_list {I l : Addr} {i : Nat} {v : Value} {s : Shared} {Q : Unit → Shared → Prop} (ht : Tgt target) (hit : s.heap.IsListIter I l i) (hQ : Q () s) : wpAny (model prog w) A (letOwnedTupleGo target (.ref I) v) Q FF s := by
  rcases ht with ⟨x, px, rfl⟩ | ⟨elts, k, pos, rfl⟩
  · exact wpAny_pure hQ
  · cases v with
    | ref T => exact wpAny_letOwnedTupleGo_listiter hit hQ
    | _ => exact wpAny_pure hQ
theorem go_tuple {I l : Addr} {i : Nat} {v : Value} {s : Shared} {Q : Unit → Shared → Prop} (ht : Tgt target) (hit : s.heap.IsTupleIter I l i) (hQ : Q () s) : wpAny (model prog w) A (letOwnedTupleGo target (.ref I) v) Q FF s := by
  rcases ht with ⟨x, px, rfl⟩ | ⟨elts, k, pos, rfl⟩
  · exact wpAny_pure hQ
  · cases v with
    | ref T =>
      obtain ⟨o, ho, hc, hd⟩ := hit
      unfold letOwnedTupleGo
      refine wpAny_bind (wpAny_load ho ?_)
      rw [hc, hd]
      show wpAny _ A (if (["enumerate", "zip", "dict_itemiterator", "dict_reverseitemiterator", "odict_iterator", "itertools.zip_longest", "itertools.pairwise"].contains "tuple_iterator" && _) = true then _ else _) Q _ s
      rw [if_neg (by
        intro h
        rw [show (["enumerate", "zip", "dict_itemiterator", "dict_reverseitemiterator", "odict_iterator", "itertools.zip_longest", "itertools.pairwise"].contains "tuple_iterator") = false from by decide, Bool.false_and] at h
        cases h)]
      exact wpAny_pure hQ
    | _ => exact wpAny_pure hQ

theorem it_list {a : Addr} {vs : List Value} (hh : A.handled = none) (ht : Tgt target) (hl : SeesL w L b fr nw a vs) (k : Itr prog w A L b fr nw target vs.length (fun i v ov => vs[i]? = some v ∧ ov = none) K) :
    St w L b fr nw (wpAny (model prog w) A (pyIter (.ref a)) K E) := fun s hs => by
  have hl' := hl s hs
  refine wpAny_pyIter_list hl' ?_
  obtain ⟨o, ho, r⟩ := id hl'
  have hlt := Heap.lt_size ho
  have W := Walks.list (prog := prog) (w := w) hh s.heap.objs.size a (Nat.ne_of_lt hlt) vs.toArray
  have W' : Wk prog w A target s.heap.objs.size [s.heap.objs.size, a] [s.heap.objs.size] vs.length (fun i v ov => vs[i]? = some v ∧ ov = none) (fun i h => h.IsListIter s.heap.objs.size a i ∧ h.IsList a vs.toArray) := by
    have := Wk.of (target := target) W (fun i h e x hx => by
      obtain ⟨⟨o1, e1, _⟩, ⟨o2, e2, _⟩⟩ := e
      simp only [List.mem_cons, List.not_mem_nil, or_false] at hx
      rcases hx with rfl | rfl
      · exact ⟨_, e1⟩
      · exact ⟨_, e2⟩) (fun _ _ _ _ hw _ hq => go_list ht hw.1 hq)
    simpa using this
  exact k s (s.heap.push _) s.toks _ _ _ _ hs (fun _ _ e => Heap.get?_push_of_some _ e) W' ⟨⟨_, Heap.get?_push_size _ rfl, rfl, rfl⟩, ⟨o, Heap.get?_push_of_some _ ho, r⟩⟩ (fun y hy => by rw [List.mem_singleton.mp hy]; exact fresh_size _)

/-- the comprehension's value goes on -/
theorem itr_none {elt iter : Expr} {scope : Scope} {pos : Pos} {X : Nat → Value → Option (Array Value) → Prop} (hn : n < 2 ^ 20)
    (hE : EnvOk env ns)
    (ns' : List (Str × NameKind)) (hns : relN scope.names ns = ns') (hk : scope.kind = .function) (ndn : (ns'.map (·.1)).Nodup ∧ Str.ofString "__debug__" ∉ ns'.map (·.1))
    (frc : Frm) (hfrc : frc.all (fun p => p.2.isNone) = true) (ndf : (frc.map (·.1)).Nodup)
    (cs' : Addr → List (Str × Addr)) (own : Addr → Led) (hcs : ∀ C, cellsFrom (C + 1) scope.names (closOf scope.names env.cells []) = cs' C)
    (hown : (own = fun _ => []) ∧ (∀ h, pushCells h scope.names = h) ∨ (own = fun C => [(C + 1, .cell none)]) ∧ (∀ h, pushCells h scope.names = h.push { cls := .type "cell", data := .cell none }))
    (J : Addr → Nat → Frm → Led → List Value → Prop) (h0 : ∀ C, J C 0 frc (own C) [])
    (turn : ∀ D cenv i v ov fr' nw' ys b', EnvOk cenv ns' → cenv.cells = cs' cenv.locals → i < n → X i v ov → (∀ vals, ov = some vals → ∃ T, v = .ref T ∧ b'.heap.IsTuple T vals) → J cenv.locals i fr' nw' ys → Up w L b fr nw b' → ys.length = i →
      St w cenv.locals b' fr' ((D, .list ys) :: nw') (wpAny (model prog w) A (assign target cenv v) (fun _ => wpAny (model prog w) A (eval elt cenv) (EK w cenv.locals b' D ys (J cenv.locals (i + 1))) FF) FF))
    (fin : ∀ D C fr' nw' ys, J C n fr' nw' ys → ys.length = n → St w L b fr ((D, .list ys) :: (nw' ++ nw)) (Q (.ref D))) :
    Itr prog w A L b fr nw target n X (CL prog w A elt target iter scope pos env none Q E) := fun s₀ h₂ tk I fp wr WS hs k2 W hst hwr => by
  refine comp_core W hn hE hs k2 hst hwr ns' hns hk ndn frc hfrc ndf cs' own hcs hown J h0 turn (RR := fun acc C => compPost (model prog w) A E none Q acc C) ?_
  intro D C fr' nw' ys s' hJ hl hat hCL hCn hCb hm
  obtain ⟨m, hm⟩ := hm
  refine ⟨m, hm, fun h' hsb => fin D C fr' nw' ys hJ hl _ ?_⟩
  exact hat.off (wr := [C]) (tk := s'.toks) (by simpa using Ne.symm hCL) (fun p hp => by simpa using hCn p hp) (fun x hx => by rw [List.mem_singleton.mp hx]; exact hCb) (fun a o ha e => hsb.extBut a o (by simpa using ha) e)
theorem itr_use {elt iter : Expr} {scope : Scope} {pos py : Pos} {y : Str} {X : Nat → Value → Option (Array Value) → Prop} (hn : n < 2 ^ 20)
    (hE : EnvOk env ns) (hy : Has ns y .local)
    (ns' : List (Str × NameKind)) (hns : relN scope.names ns = ns') (hk : scope.kind = .function) (ndn : (ns'.map (·.1)).Nodup ∧ Str.ofString "__debug__" ∉ ns'.map (·.1))
    (frc : Frm) (hfrc : frc.all (fun p => p.2.isNone) = true) (ndf : (frc.map (·.1)).Nodup)
    (cs' : Addr → List (Str × Addr)) (own : Addr → Led) (hcs : ∀ C, cellsFrom (C + 1) scope.names (closOf scope.names env.cells []) = cs' C)
    (hown : (own = fun _ => []) ∧ (∀ h, pushCells h scope.names = h) ∨ (own = fun C => [(C + 1, .cell none)]) ∧ (∀ h, pushCells h scope.names = h.push { cls := .type "cell", data := .cell none }))
    (J : Addr → Nat → Frm → Led → List Value → Prop) (h0 : ∀ C, J C 0 frc (own C) [])
    (turn : ∀ D cenv i v ov fr' nw' ys b', EnvOk cenv ns' → cenv.cells = cs' cenv.locals → i < n → X i v ov → (∀ vals, ov = some vals → ∃ T, v = .ref T ∧ b'.heap.IsTuple T vals) → J cenv.locals i fr' nw' ys → Up w env.locals b fr nw b' → ys.length = i →
      St w cenv.locals b' fr' ((D, .list ys) :: nw') (wpAny (model prog w) A (assign target cenv v) (fun _ => wpAny (model prog w) A (eval elt cenv) (EK w cenv.locals b' D ys (J cenv.locals (i + 1))) FF) FF))
    (fin : ∀ D C fr' nw' ys, J C n fr' nw' ys → ys.length = n → ∃ fr'', Put fr y (some (.ref D)) fr'' ∧ St w env.locals b fr'' ((D, .list ys) :: (nw' ++ nw)) (QF .next)) :
    Itr prog w A env.locals b fr nw target n X (CL prog w A elt target iter scope pos env (some (assign (.Name y py) env)) (fun _ => QF .next) E) := fun s₀ h₂ tk I fp wr WS hs k2 W hst hwr => by
  refine comp_core W hn hE hs k2 hst hwr ns' hns hk ndn frc hfrc ndf cs' own hcs hown J h0 turn (RR := fun acc C => compPost (model prog w) A E (some (assign (.Name y py) env)) (fun _ => QF .next) acc C) ?_
  intro D C fr' nw' ys s' hJ hl hat hCL hCn hCb hm
  obtain ⟨m, hm⟩ := hm
  obtain ⟨fr'', hp, hfin⟩ := fin D C fr' nw' ys hJ hl
  show wpAny _ A (assign (.Name y py) env (.ref D)) _ _ s'
  refine wpAny_assign_Name ?_
  obtain ⟨mL, hmL, hf⟩ := hat.ns
  refine wpAny_storeName_local (hE.kindOf hy) hmL (fun h' hnL hs' => ⟨m, hm.sameBut hs' hCL, fun h'' hsb => hfin _ ?_⟩) hE.plain
  have hat2 : At w env.locals b fr'' ((D, .list ys) :: (nw' ++ nw)) { s' with heap := h', toks := s'.toks } := by
    refine hat.growL hnL (fun p hpm => ?_) (by rw [hp.keys]; exact hat.ndf) (fun a o ha e => (hs'.2 a ha).trans e)
    rcases hp.of hat.ndf p hpm with rfl | ⟨h1, h2⟩
    · simp
    · simp only [if_neg h2]; exact hf p h1
  exact hat2.off (wr := [C]) (tk := s'.toks + 1) (by simpa using Ne.symm hCL) (fun p hp => by simpa using hCn p hp) (fun x hx => by rw [List.mem_singleton.mp hx]; exact hCb) (fun a o ha e => hsb.extBut a o (by simpa using ha) e)
end
end Mine
end

-- C12
section
open PySem PySem.W PySem.Calls PyProof.Rows PySem.Builtin
set_option Elab.async false
set_option linter.unusedVariables false
set_option linter.unusedSimpArgs false
set_option maxRecDepth 20000
namespace Mine

theorem has_app_r {α β : Type} {l₁ l₂ : List (α × β)} {x : α} {v : β} (h : Has l₂ x v) : Has (l₁ ++ l₂) x v := by
  induction l₁ with
  | nil => exact h
  | cons p r ih => exact .there ih
theorem put_app_r {α β : Type} {l₁ l₂ l₂' : List (α × β)} {x : α} {v : β} (h : Put l₂ x v l₂') : Put (l₁ ++ l₂) x v (l₁ ++ l₂') := by
  induction l₁ with
  | nil => exact h
  | cons p r ih => exact .there ih
theorem has_app_l {α β : Type} {l₁ l₂ : List (α × β)} {x : α} {v : β} (h : Has l₁ x v) : Has (l₁ ++ l₂) x v := by
  induction h with
  | here => exact .here
  | there _ ih => exact .there ih
theorem put_app_l {α β : Type} {l₁ l₁' l₂ : List (α × β)} {x : α} {v : β} (h : Put l₁ x v l₁') : Put (l₁ ++ l₂) x v (l₁' ++ l₂) := by
  induction h with
  | here => exact .here
  | there _ ih => exact .there ih
theorem has_of {α β : Type} {l : List (α × β)} {p : α × β} (h : p ∈ l) : Has l p.1 p.2 := by
  induction l with
  | nil => cases h
  | cons q r ih =>
    rcases List.mem_cons.mp h with rfl | h
    · exact .here
    · exact .there (ih h)
section
variable {prog : Program} {w : World} {A : Around} {E : Value → Shared → Prop} {env : Env} {ns : List (Str × NameKind)} {b : Shared} {fr fr' : Frm} {nw nw' : Led} {QF : Flow → Shared → Prop} {Q : Value → Shared → Prop} {L : Addr} {t u : Tok}

theorem fr_ofC {m : Str → Option Value} {fr : Frm} (h : fr.map (fun p => m p.1) = fr.map (·.2)) : ∀ p ∈ fr, m p.1 = p.2 := by
  induction fr with
  | nil => intro p hp; cases hp
  | cons q r ih =>
    simp only [List.map_cons, List.cons.injEq] at h
    intro p hp
    rcases List.mem_cons.mp hp with rfl | hp
    · exact h.1
    · exact ih h.2 p hp
theorem cells_keys : ∀ (n : Nat) (names : List (Str × NameKind)) (acc : List (Str × Addr)) (p : Str × Addr), p ∈ cellsFrom n names acc → p ∈ acc ∨ (p.1, NameKind.cell) ∈ names
  | _, [], acc, p, h => .inl h
  | n, (x, k) :: r, acc, p, h => by
    unfold cellsFrom at h
    split at h
    · rename_i hk
      rcases cells_keys (n + 1) r _ p h with h | h
      · rcases List.mem_cons.mp h with rfl | h
        · right
          have : k = .cell := by simpa using hk
          rw [this]; exact .head _
        · exact .inl h
      · exact .inr (.tail _ h)
    · rcases cells_keys n r _ p h with h | h
      · exact .inl h
      · exact .inr (.tail _ h)
theorem cells_nodup : ∀ (n : Nat) (names : List (Str × NameKind)) (acc : List (Str × Addr)), (names.map (·.1)).Nodup → (acc.map (·.1)).Nodup → (∀ p ∈ acc, p.1 ∉ names.map (·.1)) → ((cellsFrom n names acc).map (·.1)).Nodup
  | _, [], acc, _, h, _ => h
  | n, (x, k) :: r, acc, hn, h, ha => by
    simp only [List.map_cons, List.nodup_cons] at hn
    unfold cellsFrom
    split
    · refine cells_nodup _ r _ hn.2 ?_ fun p hp => ?_
      · simp only [List.map_cons, List.nodup_cons]
        refine ⟨fun hm => ?_, h⟩
        obtain ⟨p, hp, e⟩ := List.mem_map.mp hm
        exact ha p hp (by rw [e]; exact .head _)
      · rcases List.mem_cons.mp hp with rfl | hp
        · exact hn.1
        · exact fun hm => ha p hp (.tail _ hm)
    · exact cells_nodup _ r _ hn.2 h fun p hp hm => ha p hp (.tail _ hm)

/-- a call of a def with cells -/
theorem fn_enterC {s : Shared} {R : Value → Shared → Prop} {f : Addr} {o : Obj} {fd : FuncData} {body : List Stmt} {args : List Value} {binds : List (Str × Value)} (fr0 : Frm) (own : Addr → Led) (cs : Addr → List (Str × Addr))
    (g : Gd w s.heap) (ok : A.depth < 900) (ho : (hd.heap_39 w.params).lookup f = some o) (hdt : o.data = .func fd) (hb : fd.body = .stmts body) (hc : codeIn (hd.heap_39 w.params) fd.code fd.qualname = true)
    (hbind : bindArgs fd ⟨args, []⟩ = pure binds) (hclo : fd.closure = []) (hns : fd.scope.names = ns)
    (hcs : ∀ L : Addr, cellsFrom (L + 1) ns [] = cs L)
    (hloc : binds.all (fun y => decide (ns.lookup y.1 = some .local) || (decide (ns.lookup y.1 = some .cell) && ((cs 0).lookup y.1).isSome)) = true) (hcs0 : ∀ L : Addr, (cs L).map (·.1) = (cs 0).map (·.1))
    (hfr : fr0.map (fun p => bindL (fun y => ns.lookup y) binds (fun _ => none) p.1) = fr0.map (·.2)) (ndf : (fr0.map (·.1)).Nodup) (ndn : (ns.map (·.1)).Nodup ∧ Str.ofString "__debug__" ∉ ns.map (·.1))
    (hown : ∀ L : Addr, ((cs L).map fun x => (x.2, D.cell (bindC (fun y => ns.lookup y) binds (fun _ => none) x.1))) = own L)
    (hco : (fd.scope.isCoroutine || fd.scope.isGenerator || !(fd.scope.kind == .function) || !(fd.globals == mainGlobals) || !(fd.builtins == builtinsNs)) = false)
    (h : ∀ env, EnvOk env ns → env.cells = cs env.locals → St w env.locals s fr0 (own env.locals) (wpAny (model prog w) (A.deeper env) (execs body env) (fun fl s' => R (match fl with | .ret v => v | _ => .none) s') (fun _ _ => False))) :
    wpAny (model prog w) A (call (.ref f) args) R E s := by
  simp only [Bool.or_eq_false_iff, Bool.not_eq_false', beq_iff_eq] at hco
  obtain ⟨⟨⟨⟨h1, h2⟩, h3⟩, h4⟩, h5⟩ := hco
  subst hns
  have look : ∀ L x, ((cs 0).lookup x).isSome = true → ((cs L).lookup x).isSome = true := by
    intro L x
    have key : ∀ (l l' : List (Str × Addr)), l.map (·.1) = l'.map (·.1) → ((l.lookup x).isSome = true → (l'.lookup x).isSome = true) := by
      intro l
      induction l with
      | nil => intro l' _ h; simp at h
      | cons p r ih =>
        intro l' e h
        cases l' with
        | nil => simp at e
        | cons p' r' =>
          obtain ⟨a, c⟩ := p
          obtain ⟨a', c'⟩ := p'
          simp only [List.map_cons, List.cons.injEq] at e
          rw [List.lookup_cons] at h ⊢
          rw [← e.1]
          cases hx : x == a with
          | true => simp
          | false => rw [hx] at h; exact ih r' e.2 h
    exact key _ _ (hcs0 L).symm
  refine wpAny_call (codeAny_call_cells (fd := fd) (body := body) (binds := binds) (by show A.depth < 1000; omega) (g.K _ _ ho) hdt g.lim (codeRec_of g.K hc) hb hbind hclo (fun y hy => ?_) (fun s₁ x => ?_) h1 h2 h3)
  · have := List.all_eq_true.mp hloc y hy
    simp only [Bool.or_eq_true, decide_eq_true_eq, Bool.and_eq_true] at this
    rcases this with h | h
    · exact .inl h
    · exact .inr ⟨h.1, by rw [hcs]; exact look _ _ h.2⟩
  · have hce : (callEnvC fd s.heap.objs.size f).cells = cs s.heap.objs.size := hcs _
    refine wpAny_mono (h (callEnvC fd s.heap.objs.size f) ⟨h3, rfl, ndn.1, ndn.2, h4, h5⟩ hce _ ?_) (fun fl s' q => q) fun _ _ q => q.elim
    have fresh : ∀ a, s.heap.objs.size ≤ a → s.heap.get? a = none := fun a ha => by
      cases e : s.heap.get? a with
      | none => rfl
      | some o' => exact absurd (Heap.lt_size e) (Nat.not_lt.mpr ha)
    have hkd : (callEnvC fd s.heap.objs.size f).kindOf = fun y => fd.scope.names.lookup y := rfl
    have x1 := x.toInCall.ns
    rw [hkd] at x1
    show At w s.heap.objs.size s fr0 (own s.heap.objs.size) s₁
    have nd := cells_nodup (s.heap.objs.size + 1) fd.scope.names [] ndn.1 .nil (fun _ h => (nomatch h))
    have xa := x.apart
    have xc := x.cell
    have xb := x.above
    rw [hce] at xa xc xb
    rw [hkd] at xc
    rw [hcs] at nd
    refine ⟨g, ⟨_, x1, fr_ofC hfr⟩, x.toInCall.keep, fresh _ (Nat.le_refl _), ndf, fun p hp => ?_, ?_, ?_⟩
    · rw [← hown] at hp
      obtain ⟨y, hy, rfl⟩ := List.mem_map.mp hp
      obtain ⟨o', e1, e2⟩ := xc y.1 y.2 (lookup_of nd hy)
      have hab := xb y.1 y.2 hy
      exact ⟨o', e1, e2, Nat.ne_of_gt hab, fresh _ (Nat.le_of_lt hab)⟩
    · rw [← hown, List.map_map]
      exact List.pairwise_map.mpr xa
    · obtain ⟨h', tk, rfl⟩ := x.toInCall.same
      rfl

theorem swaps_true {elt : Expr} {gens : List Comprehension} {scope : Scope} {y : Str} {py pos : Pos} {line : Nat} (hE : EnvOk env ns) (hy : Has ns y .local) (hl : (py.line == pos.line) = true)
    (hno : (scope.names.any fun (n, k) => n == y && (k == .local || k == .cell)) = false) : swapsWith (.ListComp elt gens scope pos) (some (.Name y py)) line env = pure true := by
  unfold swapsWith
  have e1 : env.kindOf y = some .local := hE.kindOf hy
  have e2 : env.blockKind = .function := by unfold Env.blockKind; rw [hE.kind]; rfl
  dsimp only
  rw [e1, e2, hno]
  show (pure (_ && (py.line == pos.line) && _) : Sem Bool) = _
  rw [hl]
  rfl
theorem swaps_false {elt : Expr} {gens : List Comprehension} {scope : Scope} {y : Str} {py pos : Pos} {line : Nat} (hE : EnvOk env ns) (hy : Has ns y .cell) : swapsWith (.ListComp elt gens scope pos) (some (.Name y py)) line env = pure false := by
  unfold swapsWith
  have e1 : env.kindOf y = some .cell := hE.kindOf hy
  have e2 : env.blockKind = .function := by unfold Env.blockKind; rw [hE.kind]; rfl
  dsimp only
  rw [e1, e2]
  rfl
theorem r_cel {x : Str} {pos : Pos} {v : Value} {c : Addr} {cs : List (Str × Addr)} (hE : EnvOk env ns) (hk : Has ns x .cell) (hcs : env.cells = cs) (hc : Has cs x c) (nd : (cs.map (·.1)).Nodup) (hv : SeesC w L b fr nw c v) (k : St w L b fr nw (Q v)) : St w L b fr nw (wpAny (model prog w) A (eval (.Name x pos) env) Q E) :=
  r_cell hE hk (by rw [hcs]; exact lookup_of nd hc.mem) hv k
theorem r_storeCel {x : Str} {v : Value} {c : Addr} {cs : List (Str × Addr)} {Q : Unit → Shared → Prop} (hE : EnvOk env ns) (hk : Has ns x .cell) (hcs : env.cells = cs) (hc : Has cs x c) (nd : (cs.map (·.1)).Nodup) {v₀ : Option Value} (hh : Has nw c (.cell v₀)) (hp : Put nw c (.cell (some v)) nw') (k : St w L b fr nw' (Q ())) : St w L b fr nw (wpAny (model prog w) A (storeName env x v) Q E) :=
  r_storeC hE hk (by rw [hcs]; exact lookup_of nd hc.mem) hh hp k
/-- a ledger in another order, some of it forgotten -/
theorem St.subperm {R : Shared → Prop} (hp : ∃ l, nw'.Perm l ∧ l.Sublist nw) (h : St w L b fr nw' R) : St w L b fr nw R := fun s hs => by
  obtain ⟨l, h1, h2⟩ := hp
  exact h s (hs.sub (fun _ q => q) hs.ndf (fun p q => h2.subset (h1.mem_iff.mp q)) ((h1.map _).nodup_iff.mpr (hs.ndn.sublist (h2.map _))))
end
end Mine
end

-- C13
section
open PySem PySem.W PySem.Calls PyProof.Rows PySem.Builtin
set_option Elab.async false
set_option linter.unusedVariables false
set_option linter.unusedSimpArgs false
set_option maxRecDepth 100000
namespace Mine
open AutoSeq1 (wpAny_loadPart')

theorem meets_enumerate_newT (l : Addr) (items : Array Value) (n : Nat) (dct : Option Addr) (sl : Array (Option Value)) :
    Meets (Builtin.«enumerate.__new__» ⟨[.type "enumerate", .ref l], []⟩) (fun _ R s => s.heap.get? l = some { cls := .type "tuple", dict := dct, data := .seq items n, slots := sl } ∧
      R (.ok (.ret (.ref (s.heap.push { cls := .type "tuple_iterator", data := .fields #[.ref l, .int 0 0] }).objs.size)))
        { s with heap := (s.heap.push { cls := .type "tuple_iterator", data := .fields #[.ref l, .int 0 0] }).push { cls := .type "enumerate", data := .fields #[.none, .bool false, .ref s.heap.objs.size, rawInt 0, .none, .none] } }) :=
  .of_wp fun prog w A R s h => by
    obtain ⟨hp, g, d, tk, os⟩ := s; obtain ⟨hl, h⟩ := h
    have hsub := sub_enumerate
    have hL : Heap.IsTuple (Shared.heap ⟨hp, g, d, tk, os⟩) l items := ⟨_, hl, rfl, n, rfl⟩
    wp_walk using wpAny_loadPart' hl
    refine wpAny_stack_any fun st => wpAny_pure ?_
    split
    · rename_i c _ _ _ _ _
      cases (c == Value.type "enumerate")
      · wp_walk using wpAny_loadPart' hl, wpAny_pyIter_tuple hL
        exact ⟨_, rfl, h⟩
      · wp_walk using wpAny_loadPart' hl, wpAny_pyIter_tuple hL
        exact ⟨_, rfl, h⟩
    · wp_walk using wpAny_loadPart' hl, wpAny_pyIter_tuple hL
      exact ⟨_, rfl, h⟩

section
variable {prog : Program} {w : World} {A : Around} {E : Value → Shared → Prop} {s : Shared}
theorem call_enumerate_tuple {l : Addr} {items : Array Value} {Q : Value → Shared → Prop} (hL : s.heap.IsTuple l items)
    (h : ∀ h', IsEnum h' (s.heap.objs.size + 1) s.heap.objs.size 0 .none → h'.IsTupleIter s.heap.objs.size l 0 → h'.objs.size = s.heap.objs.size + 2 →
      (∀ b o, s.heap.get? b = some o → h'.get? b = some o) → Q (.ref (s.heap.objs.size + 1)) { s with heap := h' }) :
    wpAny (model prog w) A (call (.type "enumerate") [.ref l]) Q E s := by
  obtain ⟨⟨c, dct, dt, sl⟩, hl, hc, n, hd⟩ := hL
  replace hc : c = .type "tuple" := hc
  replace hd : dt = .seq items n := hd
  subst hc hd
  refine callType_new F.called_enumerate (by decide) (F.typeCall_enumerate_1 _) (F.newCall_enumerate_1 _) (fun obj => F.args_object_init_2 obj _) F.entry_enumerate_new
    (meets_enumerate_newT l items n dct sl) ⟨hl, ?_⟩
  have hz : (s.heap.push { cls := .type "tuple_iterator", data := .fields #[.ref l, .int 0 0] }).objs.size = s.heap.objs.size + 1 := Heap.size_push ..
  show _ ∧ _
  rw [hz]
  have he : IsEnum ((s.heap.push { cls := .type "tuple_iterator", data := .fields #[.ref l, .int 0 0] }).push
      { cls := .type "enumerate", data := .fields #[.none, .bool false, .ref s.heap.objs.size, rawInt 0, .none, .none] }) (s.heap.objs.size + 1) s.heap.objs.size 0 .none := by
    have := Heap.get?_push_size (s.heap.push { cls := .type "tuple_iterator", data := .fields #[.ref l, .int 0 0] })
      (o := { cls := .type "enumerate", data := .fields #[.none, .bool false, .ref s.heap.objs.size, rawInt 0, .none, .none] }) rfl
    rw [hz] at this; exact this
  refine ⟨⟨_, he, rfl⟩, h _ he ⟨_, Heap.get?_push_of_some _ (Heap.get?_push_size _ rfl), rfl, rfl⟩ (by rw [Heap.size_push, hz]) fun b o x => Heap.get?_push_of_some _ (Heap.get?_push_of_some _ x)⟩

theorem nextOf_tuple_item {it t : Addr} {i : Nat} {items} {x : Value} {Q : Value → Shared → Prop} (hit : s.heap.IsTupleIter it t i)
    (ht : s.heap.IsTuple t items) (hx : items[i]? = some x)
    (hQ : ∀ h', h'.IsTupleIter it t (i + 1) → Heap.SameBut it s.heap h' → Q x { s with heap := h' }) :
    wpAny (model prog w) A (Builtin.SmallTypes.nextOf (.ref it)) Q E s := by
  obtain ⟨o, ho, hc, hd⟩ := id hit
  obtain ⟨ol, hol, _, nl, hdl⟩ := ht
  unfold Builtin.SmallTypes.nextOf
  refine wpAny_bind (wpAny_callSpecial?_slot (name := Str.ofString "__next__") hit.typeIs F.slot_tuple_iterator_next
    (wpAny_call_entry F.slot_tuple_iterator_next hit.typeIs F.entry_tuple_iterator_next ?_ (F.args_tuple_iterator_next_1 _)))
  show wpAny _ _ (field (.ref it) 0 >>= _) _ _ s
  refine wpAny_bind (wpAny_field ho hd (x := .ref t) rfl ?_)
  show wpAny _ _ (if (Value.ref t == Value.none) = true then _ else _) _ _ s
  rw [if_neg (show ¬ ((Value.ref t == Value.none) = true) from Bool.false_ne_true)]
  show wpAny _ _ (field (.ref it) 1 >>= _) _ _ s
  refine wpAny_bind (wpAny_field ho hd (x := .int i 0) rfl ?_)
  show wpAny _ _ (seqItems? (.ref t) >>= _) _ _ s
  refine wpAny_bind (wpAny_seqItems hol hdl ?_)
  simp only [Int.toNat_natCast, hx]
  refine wpAny_bind (wpAny_setField ho hd (by simp) (wpAny_pure ⟨x, rfl, wpAny_pure (hQ _ ?_ (Heap.SameBut.update ..))⟩))
  exact ⟨_, Heap.get?_update_self _ ho (Obj.isFreed_of_fields (Obj.data_mapFields hd _)), (Obj.cls_mapFields ..).trans hc, by
    rw [Obj.data_mapFields hd]; simp [rawInt]⟩
theorem nextOf_tuple_end {it t : Addr} {i : Nat} {items} {Q : Value → Shared → Prop} (hh : A.handled = none)
    (hit : s.heap.IsTupleIter it t i) (ht : s.heap.IsTuple t items) (hx : items[i]? = none)
    (hE : ∀ h' e, Heap.ExtBut it s.heap h' → (∃ o, h'.get? e = some o ∧ o.cls = .type "StopIteration") → E (.ref e) { s with heap := h' }) : wpAny (model prog w) A (Builtin.SmallTypes.nextOf (.ref it)) Q E s := by
  obtain ⟨o, ho, hc, hd⟩ := id hit
  obtain ⟨ol, hol, _, nl, hdl⟩ := ht
  unfold Builtin.SmallTypes.nextOf
  refine wpAny_bind (wpAny_callSpecial?_slot (name := Str.ofString "__next__") hit.typeIs F.slot_tuple_iterator_next
    (wpAny_call_entry F.slot_tuple_iterator_next hit.typeIs F.entry_tuple_iterator_next ?_ (F.args_tuple_iterator_next_1 _)))
  show wpAny _ _ (field (.ref it) 0 >>= _) _ _ s
  refine wpAny_bind (wpAny_field ho hd (x := .ref t) rfl ?_)
  show wpAny _ _ (if (Value.ref t == Value.none) = true then _ else _) _ _ s
  rw [if_neg (show ¬ ((Value.ref t == Value.none) = true) from Bool.false_ne_true)]
  show wpAny _ _ (field (.ref it) 1 >>= _) _ _ s
  refine wpAny_bind (wpAny_field ho hd (x := .int i 0) rfl ?_)
  show wpAny _ _ (seqItems? (.ref t) >>= _) _ _ s
  refine wpAny_bind (wpAny_seqItems hol hdl ?_)
  simp only [Int.toNat_natCast, hx]
  refine wpAny_bind (wpAny_rule (wpAny_bind (wpAny_setField ho hd (by simp) ?_)))
  show wpAny _ _ (newExc (.type "StopIteration") [] >>= _) _ _ _
  refine wpAny_bind ?_
  simp only [newExc, newTuple]
  refine wpAny_bind (wpAny_newObj_type ?_ (by size_fits))
  refine wpAny_bind (m := firstArgMember _ _) (wpAny_of_eq (a := Value.none) (by first | rfl | (simp only [firstArgMember]; rfl)) ?_)
  refine wpAny_newObj_type ?_ (by size_fits)
  simp only [raiseNew]
  refine wpAny_bind (wpAny_handled ?_)
  first | rw [show A.in1.handled = none from hh] | rw [hh]
  refine wpAny_bind (wpAny_pure (wpAny_throw ?_))
  exact hE _ _ (((Heap.SameBut.update ..).extBut.push _).push _) ⟨_, Heap.get?_push_size _ rfl, rfl⟩
theorem Draws_tuple (hh : A.handled = none) (it l : Addr) (hne : l ≠ it) (items : Array Value) :
    Draws prog w A it [it, l] items.size (fun i v => items[i]? = some v) (fun i h => h.IsTupleIter it l i ∧ h.IsTuple l items) where
  live := fun _ _ st => let ⟨o, ho, _⟩ := st.1; ⟨o, ho⟩
  frame := fun _ _ _ st hk => ⟨st.1.at fun o e => hk it (by simp) o e, st.2.at fun o e => hk l (by simp) o e⟩
  item := fun i s Q E hi st hQ => by
    refine nextOf_tuple_item st.1 st.2 (x := items[i]) (by simp [hi]) fun h' hit' hs' => ?_
    exact hQ _ h' s.toks (by simp [hi]) ⟨hit', st.2.extBut hs'.extBut hne⟩ hs'
  done := fun s Q E st hE => nextOf_tuple_end hh st.1 st.2 (by simp) hE
end

section
variable {prog : Program} {w : World} {A : Around} {E : Value → Shared → Prop} {env : Env} {ns : List (Str × NameKind)} {b : Shared} {fr fr' : Frm} {nw nw' : Led} {QF : Flow → Shared → Prop} {Q : Value → Shared → Prop} {L : Addr} {t u : Tok}
/-- for x, y in enumerate(tuple), the tuple standing in the base -/
theorem f_enumT {elts : List Expr} {kk : Nat} {pt : Pos} {body orelse : List Stmt} {l : Addr} {vs : List Value} (hh : A.handled = none) (hl : b.heap.IsTuple l vs.toArray) (J : Nat → Frm → Led → Prop) (h0 : J 0 fr nw)
    (turn : ∀ i x T t fr nw b', vs[i]? = some x → b'.heap.IsTuple T #[.int i t, x] → J i fr nw → Keeps b b' → St w L b' fr nw (wpAny (model prog w) A (assign (.Tuple elts kk pt) env (.ref T)) (fun _ => wpAny (model prog w) A (execs body env) (LK w L b' (J (i + 1)) QF) FF) FF))
    (done : ∀ fr nw, J vs.length fr nw → St w L b fr nw (wpAny (model prog w) A (execs orelse env) QF FF)) :
    St w L b fr nw (wpAny (model prog w) A (call (.type "enumerate") [.ref l]) (fun x => wpAny (model prog w) A (pyIter x) (FL prog w A (.Tuple elts kk pt) body orelse env QF E) E) E) := fun s hs => by
  have hl' : s.heap.IsTuple l vs.toArray := let ⟨o, ho, r⟩ := hl; ⟨o, hs.keep _ _ ho, r⟩
  refine call_enumerate_tuple hl' fun h' he hit hsz hk => wpAny_pyIter_enum he ?_
  have hlt := hs.lt
  obtain ⟨ol, hol, _⟩ := hl
  obtain ⟨ol', hol', _⟩ := id hl'
  have hll := Heap.lt_size hol'
  have none_of : ∀ a, s.heap.objs.size ≤ a → b.heap.get? a = none := fun a ha => by
    cases q : b.heap.get? a with
    | none => rfl
    | some o => exact absurd (Heap.lt_size (hs.keep _ _ q)) (Nat.not_lt.mpr ha)
  have Dr := Draws_tuple (prog := prog) (w := w) (A := A.in1) hh s.heap.objs.size l (Nat.ne_of_lt hll) vs.toArray
  have W := WalksT.enumerateD Dr (s.heap.objs.size + 1) (Nat.succ_ne_self _) (by
    simp only [List.mem_cons, List.not_mem_nil, or_false, not_or]
    exact ⟨Nat.succ_ne_self _, (Nat.ne_of_lt (Nat.lt_succ_of_lt hll)).symm⟩) (.head _)
  have hsz2 : vs.toArray.size = vs.length := by simp
  rw [hsz2] at W
  refine for_wk (n := vs.length) (Wk.ofT (elts := elts) (k := kk) (pos := pt) W ?_) J (hs.grow (h' := h') (tk := s.toks) hk) ⟨⟨_, he⟩, hit, (let ⟨o, ho, r⟩ := hl'; ⟨o, hk _ _ ho, r⟩)⟩ ?_ ?_ ?_ h0 ?_ done
  · rintro i h ⟨⟨old, he⟩, ⟨o1, h1, _⟩, ⟨o2, h2, _⟩⟩ x hx
    simp only [List.mem_cons, List.not_mem_nil, or_false] at hx
    rcases hx with rfl | rfl | rfl
    · exact ⟨_, he⟩
    · exact ⟨_, h1⟩
    · exact ⟨_, h2⟩
  · intro hm
    simp only [List.mem_cons, List.not_mem_nil, or_false] at hm
    rcases hm with e | e | e
    · exact Nat.ne_of_lt (Nat.lt_succ_of_lt hlt.1) e
    · exact Nat.ne_of_lt hlt.1 e
    · have q := hs.hL
      rw [e, hol] at q; cases q
  · intro p hp hm
    have hpl := hlt.2 p hp
    simp only [List.mem_cons, List.not_mem_nil, or_false] at hm
    rcases hm with e | e | e
    · exact Nat.ne_of_lt (Nat.lt_succ_of_lt hpl) e
    · exact Nat.ne_of_lt hpl e
    · obtain ⟨_, _, _, _, q⟩ := hs.N p hp
      rw [e, hol] at q; cases q
  · intro x hx
    simp only [List.mem_cons, List.not_mem_nil, or_false] at hx
    rcases hx with rfl | rfl
    · exact none_of _ (Nat.le_succ _)
    · exact none_of _ (Nat.le_refl _)
  · rintro i v ov fr nw b' hi ⟨vals, ⟨t, x, hx, rfl⟩, rfl⟩ hT hJ kb
    obtain ⟨T, rfl, hT'⟩ := hT _ rfl
    exact turn i x T t fr nw b' (by simpa using hx) hT' hJ kb

/-- for .. in tuple, the tuple standing in the base -/
theorem f_tuple {target : Expr} {body orelse : List Stmt} {l : Addr} {vs : List Value} (hh : A.handled = none) (ht : Tgt target) (hl : b.heap.IsTuple l vs.toArray) (J : Nat → Frm → Led → Prop) (h0 : J 0 fr nw)
    (turn : ∀ i x fr nw b', vs[i]? = some x → J i fr nw → Keeps b b' → St w L b' fr nw (wpAny (model prog w) A (assign target env x) (fun _ => wpAny (model prog w) A (execs body env) (LK w L b' (J (i + 1)) QF) FF) FF))
    (done : ∀ fr nw, J vs.length fr nw → St w L b fr nw (wpAny (model prog w) A (execs orelse env) QF FF)) :
    St w L b fr nw (wpAny (model prog w) A (pyIter (.ref l)) (FL prog w A target body orelse env QF E) E) := fun s hs => by
  have hl' : s.heap.IsTuple l vs.toArray := let ⟨o, ho, r⟩ := hl; ⟨o, hs.keep _ _ ho, r⟩
  refine wpAny_pyIter_tuple hl' ?_
  have hlt := hs.lt
  obtain ⟨ol, hol, _⟩ := hl
  obtain ⟨ol', hol', _⟩ := id hl'
  have hll := Heap.lt_size hol'
  have W := Walks.tuple (prog := prog) (w := w) (A := A) hh s.heap.objs.size l (Nat.ne_of_lt hll) vs.toArray
  have hsz2 : vs.toArray.size = vs.length := by simp
  rw [hsz2] at W
  refine for_wk (n := vs.length) (Wk.of (target := target) W ?_ (fun _ _ _ _ hw _ hq => go_tuple ht hw.1 hq)) J (hs.grow (h' := s.heap.push _) (tk := s.toks) fun _ _ e => Heap.get?_push_of_some _ e) ⟨⟨_, Heap.get?_push_size _ rfl, rfl, rfl⟩, (let ⟨o, ho, r⟩ := hl'; ⟨o, Heap.get?_push_of_some _ ho, r⟩)⟩ ?_ ?_ ?_ h0 ?_ done
  · rintro i h ⟨⟨o1, h1, _⟩, ⟨o2, h2, _⟩⟩ x hx
    simp only [List.mem_cons, List.not_mem_nil, or_false] at hx
    rcases hx with rfl | rfl
    · exact ⟨_, h1⟩
    · exact ⟨_, h2⟩
  · intro hm
    simp only [List.mem_cons, List.not_mem_nil, or_false] at hm
    rcases hm with e | e
    · exact Nat.ne_of_lt hlt.1 e
    · have q := hs.hL
      rw [e, hol] at q; cases q
  · intro p hp hm
    have hpl := hlt.2 p hp
    simp only [List.mem_cons, List.not_mem_nil, or_false] at hm
    rcases hm with e | e
    · exact Nat.ne_of_lt hpl e
    · obtain ⟨_, _, _, _, q⟩ := hs.N p hp
      rw [e, hol] at q; cases q
  · intro x hx
    rw [List.mem_singleton.mp hx]
    cases q : b.heap.get? s.heap.objs.size with
    | none => rfl
    | some o => exact absurd (Heap.lt_size (hs.keep _ _ q)) (Nat.lt_irrefl _)
  · rintro i v ov fr nw b' hi ⟨hx, rfl⟩ hT hJ kb
    exact turn i v fr nw b' (by simpa using hx) hJ kb
/-- sep.join(list of texts) -/
theorem c_join {a : Addr} {vs : List Value} {ys : List Str} {t : Tok} (hl : SeesL w L b fr nw a vs) (hi : StrsAre vs ys) (hw : (ys.map (·.length)).sum ≤ 1000) (h : ∀ t, St w L b fr nw (Q (.str (Txt.join (T []) ys) t))) :
    St w L b fr nw (wpAny (model prog w) A (call (.builtin "str.join") [.str (T []) t, .ref a]) Q E) := fun s hs =>
  join_list (hl s hs) (by simpa using hi) (by rw [T_len]; simp only [List.length_nil, Nat.mul_zero, Nat.add_zero]; omega) fun t' k => h _ _ (hs.toks _)
end
end Mine
end

-- C14
section
open PySem PySem.W PySem.Calls PyProof.Rows PySem.Builtin
set_option Elab.async false
set_option linter.unusedVariables false
set_option linter.unusedSimpArgs false
set_option maxRecDepth 20000
namespace Mine
section
variable {prog : Program} {w : World} {A : Around} {E : Value → Shared → Prop} {env : Env} {ns : List (Str × NameKind)} {b : Shared} {fr fr' : Frm} {nw nw' : Led} {QF : Flow → Shared → Prop} {Q : Value → Shared → Prop} {L : Addr} {t u : Tok}

/-- a part of a slice, and the number it stands for -/
inductive PartIs : Value → Option Int → Prop
  | none : PartIs .none none
  | int (i : Int) (t : Tok) : PartIs (.int i t) (some i)
theorem PartIs.is {v : Value} {o : Option Int} (h : PartIs v o) : IsPart v o := by
  cases h with
  | none => exact .none
  | int i t => exact .int ..

/-- a slice of a list; the slice is dropped -/
theorem x_list_slice {l a : Addr} {vs : List Value} {vl vu : Value} {lo hi : Option Int} {value slice : Expr} (hl : SeesL w L b fr nw l vs) (hx : vs.length < 2 ^ 20) (pl : PartIs vl lo) (pu : PartIs vu hi)
    (h : ∀ c, St w L b fr ((c, .list (pySl vs lo hi)) :: nw) (Q (.ref c)))
    (hs : subscripted slice false (.ref l) (.ref a) = operate [.ref a, .ref l] (getItem (.ref l) (.ref a)) := by with_unfolding_all rfl) :
    St w L b fr ((a, .obj (slO vl vu)) :: nw) (wpAny (model prog w) A (subscriptTail value slice (.ref l) (.ref a)) Q E) := fun s h' => by
  obtain ⟨o, ho, rfl, _⟩ := h'.get Has.here
  have h0 : At w L b fr nw s := h'.sub (fun p hp => hp) h'.ndf (fun p hp => .tail _ hp) (by have := h'.ndn; simp only [List.map_cons, List.nodup_cons] at this; exact this.2)
  refine tail_any (hl s h0).typeIs list_getitem_lookup ?_ hs
  refine wpAny_getItem_list_slice (lo := lo) (hi := hi) (st := none) (hl s h0) ⟨_, ho, rfl, rfl⟩ pl.is pu.is .none (by simp) ?_ (by rw [sizeLine_eq]; simp; omega)
  rw [slicePick_eq]
  exact h _ _ (h0.push (d := .list _) ⟨0, rfl⟩ s.toks)

theorem fm_map {α β : Type} {f : α → Option β} {g : α → β} : ∀ {l : List α}, (∀ i ∈ l, f i = some (g i)) → l.filterMap f = l.map g
  | [], _ => rfl
  | a :: r, h => by rw [List.filterMap_cons, h a (.head _), List.map_cons, fm_map fun i hi => h i (.tail _ hi)]
theorem rev_pick (vs : List Value) : slicePick vs.toArray none none (some (-1)) = vs.reverse.toArray := by
  unfold slicePick
  congr 1
  have hsz : vs.toArray.size = vs.length := by simp
  rw [hsz]
  have e : sliceRange (sliceBounds none none (some (-1)) vs.length).1 (sliceBounds none none (some (-1)) vs.length).2.1 (sliceBounds none none (some (-1)) vs.length).2.2 = (List.range vs.length).map (fun i => vs.length - 1 - i) := by
    have e1 : sliceBounds none none (some (-1)) vs.length = ((vs.length : Int) - 1, -1, -1) := by simp [sliceBounds]
    rw [e1]
    unfold sliceRange
    simp only
    have c : (if (-1 : Int) > 0 then (if (vs.length : Int) - 1 < -1 then (-1 - ((vs.length : Int) - 1) + -1 - 1) / -1 else 0) else (if (vs.length : Int) - 1 > -1 then ((vs.length : Int) - 1 - -1 - -1 - 1) / (- -1) else 0)) = (vs.length : Int) := by
      rw [if_neg (by omega)]
      split
      · rw [show (- -1 : Int) = 1 from rfl, Int.ediv_one]; omega
      · omega
    rw [c]
    rw [Int.toNat_natCast]
    apply List.map_congr_left
    intro k hk
    have := List.mem_range.mp hk
    omega
  rw [e]
  apply List.ext_getElem?
  intro k
  rw [List.filterMap_map]
  have e2 : (List.range vs.length).filterMap ((fun x => vs.toArray[x]?) ∘ fun i => vs.length - 1 - i) = (List.range vs.length).map (fun i => (vs[vs.length - 1 - i]?).getD .none) := by
    refine fm_map ?_
    intro i hi
    have := List.mem_range.mp hi
    simp only [Function.comp]
    have h2 : vs.length - 1 - i < vs.length := by omega
    simp [h2]
  rw [e2]
  by_cases hk : k < vs.length
  · rw [List.getElem?_map, List.getElem?_range hk, List.getElem?_reverse hk]
    have h2 : vs.length - 1 - k < vs.length := by omega
    simp [h2]
  · rw [List.getElem?_eq_none (by simp; omega), List.getElem?_eq_none (by simp; omega)]
/-- a slice with a step -/
abbrev slO3 (vl vu vs : Value) : Obj := { cls := .type "slice", data := .fields #[vl, vu, vs] }
def SlK3 (vl vu vs : Value) (Q : Value → Shared → Prop) (s : Shared) : Prop := Q (.ref s.heap.objs.size) { s with heap := s.heap.push (slO3 vl vu vs) }
theorem r_Slice3 {lower upper : Option Expr} {step : Expr} {p : Pos} (h : St w L b fr nw (wpAny (model prog w) A (evalPart lower env) (fun l => wpAny (model prog w) A (evalPart upper env) (fun u => wpAny (model prog w) A (eval step env) (fun st => SlK3 l u st Q) E) E) E)) : St w L b fr nw (wpAny (model prog w) A (eval (.Slice lower upper (some step) p) env) Q E) := fun s hs =>
  wpAny_Slice (wpAny_mono (h s hs) (fun l s₁ h₁ => wpAny_mono h₁ (fun u s₂ h₂ => h₂) fun _ _ x => x) fun _ _ x => x)
theorem r_SlK3 {vl vu vs : Value} (h : ∀ a, St w L b fr ((a, .obj (slO3 vl vu vs)) :: nw) (Q (.ref a))) : St w L b fr nw (SlK3 vl vu vs Q) := fun s hs => h _ _ (hs.push (o := slO3 vl vu vs) (d := .obj (slO3 vl vu vs)) ⟨rfl, rfl⟩ s.toks)
theorem x_list_rev {l a : Addr} {vs : List Value} {ts : Tok} {value slice : Expr} (hl : SeesL w L b fr nw l vs) (hx : vs.length < 2 ^ 20)
    (h : ∀ c, St w L b fr ((c, .list vs.reverse) :: nw) (Q (.ref c)))
    (hs : subscripted slice false (.ref l) (.ref a) = operate [.ref l, .ref a] (getItem (.ref l) (.ref a)) := by with_unfolding_all rfl) :
    St w L b fr ((a, .obj (slO3 .none .none (.int (-1) ts))) :: nw) (wpAny (model prog w) A (subscriptTail value slice (.ref l) (.ref a)) Q E) := fun s h' => by
  obtain ⟨o, ho, rfl, _⟩ := h'.get Has.here
  have h0 : At w L b fr nw s := h'.sub (fun p hp => hp) h'.ndf (fun p hp => .tail _ hp) (by have := h'.ndn; simp only [List.map_cons, List.nodup_cons] at this; exact this.2)
  refine tail_any (hl s h0).typeIs list_getitem_lookup ?_ hs
  refine wpAny_getItem_list_slice (lo := none) (hi := none) (st := some (-1)) (hl s h0) ⟨_, ho, rfl, rfl⟩ .none .none (.int _ _) (by simp) ?_ (by rw [sizeLine_eq]; simp; omega)
  rw [rev_pick]
  exact h _ _ (h0.push (d := .list _) ⟨0, rfl⟩ s.toks)
/-- two lists in a row -/
theorem i_ladd {l c : Addr} {vs us : List Value} (hl : SeesL w L b fr nw l vs) (hc : SeesL w L b fr nw c us) (hn : vs.length + us.length < 2 ^ 20) (h : ∀ a, St w L b fr ((a, .list (vs ++ us)) :: nw) (Q (.ref a))) :
    St w L b fr nw (wpAny (model prog w) A (binaryOp .Add (.ref l) (.ref c)) Q E) := fun s hs => by
  obtain ⟨m, F, N, back⟩ := hs.lib
  refine add_arrays (F := F) (N := N) (hl s hs) (hc s hs) (fun h' F' N' => ?_) (by rw [sizeLine_eq]; simp; omega)
  have hat := back h' s.toks F' (fun p hp => N' p (.tail _ hp))
  have hnew := (N' _ (.head _)).1
  have key : At w L b fr ((s.heap.objs.size, .list (vs ++ us)) :: nw) { s with heap := h', toks := s.toks } := by
    refine ⟨hat.gd, hat.ns, hat.keep, hat.hL, hat.ndf, fun p hp => ?_, ?_, hat.eqv⟩
    · rcases List.mem_cons.mp hp with rfl | hp
      · refine ⟨_, hnew, ⟨0, by simp [W.listOf]⟩, (Nat.ne_of_lt hs.lt.1).symm, ?_⟩
        cases q : b.heap.get? s.heap.objs.size with
        | none => rfl
        | some o => exact absurd (Heap.lt_size (hs.keep _ _ q)) (Nat.lt_irrefl _)
      · exact hat.N p hp
    · simp only [List.map_cons, List.nodup_cons]
      refine ⟨fun hm => ?_, hat.ndn⟩
      obtain ⟨p, hp, e⟩ := List.mem_map.mp hm
      exact Nat.ne_of_lt (hs.lt.2 p hp) e
  exact h _ _ key
end
end Mine
end

-- C15
section
open PySem PySem.W PySem.Calls PyProof.Rows PySem.Builtin
set_option Elab.async false
set_option linter.unusedVariables false
set_option linter.unusedSimpArgs false
set_option maxRecDepth 20000
namespace Mine
/-- equal, as Python compares them -/
inductive Eqv : Value → Value → Prop
  | int (i : Int) (t u : Tok) : Eqv (.int i t) (.int i u)
  | str (x : Str) (t u : Tok) : Eqv (.str x t) (.str x u)
def Eqvs (vs us : List Value) : Prop := vs.length = us.length ∧ ∀ (j : Nat) (v u : Value), vs[j]? = some v → us[j]? = some u → Eqv v u
theorem Eqv.at {A : Around} {s : Shared} {v u : Value} (h : Eqv v u) : SeqAt.EqAt A s v u true := by
  cases h with
  | int i t u => have := SeqAt.EqAt.int_int (A := A) (s := s) i t i u; rwa [beq_self_eq_true] at this
  | str x t u => have := SeqAt.EqAt.str_str (A := A) (s := s) x t x u; rwa [beq_self_eq_true] at this
theorem eqvs_ints {vs us : List Value} {xs : List Int} (h : IntsAre vs xs) (h' : IntsAre us xs) : Eqvs vs us := by
  refine ⟨h.length.trans h'.length.symm, fun j v u hv hu => ?_⟩
  obtain ⟨x, hx⟩ : ∃ x, xs[j]? = some x := ⟨_, List.getElem?_eq_getElem (by rw [← h.length]; exact (List.getElem?_eq_some_iff.mp hv).1)⟩
  obtain ⟨t1, e1⟩ := h.get j x hx
  obtain ⟨t2, e2⟩ := h'.get j x hx
  rw [hv] at e1; rw [hu] at e2
  cases e1; cases e2
  exact .int _ _ _
theorem eqvs_strs {vs us : List Value} {xs : List Str} (h : StrsAre vs xs) (h' : StrsAre us xs) : Eqvs vs us := by
  refine ⟨h.len_eq.trans h'.len_eq.symm, fun j v u hv hu => ?_⟩
  obtain ⟨x, hx⟩ : ∃ x, xs[j]? = some x := ⟨_, List.getElem?_eq_getElem (by rw [← h.len_eq]; exact (List.getElem?_eq_some_iff.mp hv).1)⟩
  obtain ⟨t1, e1⟩ := h.get j x hx
  obtain ⟨t2, e2⟩ := h'.get j x hx
  rw [hv] at e1; rw [hu] at e2
  cases e1; cases e2
  exact .str _ _ _
section
variable {prog : Program} {w : World} {A : Around} {E : Value → Shared → Prop} {env : Env} {ns : List (Str × NameKind)} {b : Shared} {fr fr' : Frm} {nw nw' : Led} {QF : Flow → Shared → Prop} {Q : Value → Shared → Prop} {L : Addr} {t u : Tok}
theorem i_leq {l c : Addr} {vs us : List Value} (hu : A.units < 9000) (h1 : SeesL w L b fr nw l vs) (h2 : SeesL w L b fr nw c us) (he : Eqvs vs us) (k : St w L b fr nw (Q (.bool true))) : St w L b fr nw (wpAny (model prog w) A (compareOp .Eq (.ref l) (.ref c)) Q E) := fun s hs => by
  refine SeqAt.eq_listAt (e := fun _ => true) (h1 s hs) (h2 s hs) (by simpa using he.1) (by show A.units < 9900; omega) (fun j q1 q2 => ?_) ?_
  · exact (he.2 j _ _ (by simp at q1 ⊢) (by simp at q2 ⊢)).at
  · have e : ((List.range vs.toArray.size).all fun _ => true) = true := by simp
    rw [e]; exact k s hs
theorem i_lne {l c : Addr} {vs us : List Value} (hu : A.units < 9000) (h1 : SeesL w L b fr nw l vs) (h2 : SeesL w L b fr nw c us) (he : Eqvs vs us) (k : St w L b fr nw (Q (.bool false))) : St w L b fr nw (wpAny (model prog w) A (compareOp .NotEq (.ref l) (.ref c)) Q E) := fun s hs => by
  refine SeqAt.RcNeAt.lists (e := fun _ => true) (h1 s hs) (h2 s hs) (by simpa using he.1) (by show A.units < 9900; omega) (fun j q1 q2 => ?_) prog w E Q ?_
  · exact (he.2 j _ _ (by simp at q1 ⊢) (by simp at q2 ⊢)).at
  · have e : ((List.range vs.toArray.size).all fun _ => true) = true := by simp
    rw [e]; exact k s hs
end
end Mine
end

section
set_option compiler.extract_closed false
open PySem PySem.W PySem.Calls PyProof.Rows
set_option Elab.async false
set_option linter.unusedVariables false
set_option linter.unusedSimpArgs false
set_option maxRecDepth 20000
set_option maxHeartbeats 4000000
namespace Mine
local macro_rules | `(tactic| walk_at "has") => `(tactic| first | with_reducible apply Has.here | (with_reducible apply Has.there; walk_at "has") | (with_reducible apply has_app_r; walk_at "has"))
local macro_rules | `(tactic| walk_at "put") => `(tactic| first | with_reducible apply Put.here | (with_reducible apply Put.there; walk_at "put") | (with_reducible apply put_app_r; walk_at "put"))
local macro_rules | `(tactic| walk_at "isfn") => `(tactic| first | exact isFn21 | exact isFn28 | exact isFn35 | exact isFn42 | exact isFn49 | exact isFn56 | exact isFn63 | exact isFn70 | exact isFn110 | exact isFn117 | exact isFn124 | exact isFn129 | exact isFn136)
local macro_rules | `(tactic| walk_at "sees") => `(tactic| first | exact seesL_nw (by walk_at "has") | exact seesL_b (by assumption))
local macro_rules | `(tactic| walk_at "seest") => `(tactic| first | exact seesT_nw (by walk_at "has") | exact seesT_b (by assumption))
local macro_rules | `(tactic| walk_at "seesc") => `(tactic| first | exact seesC_nw (by walk_at "has") | exact seesC_b (by assumption))
local macro_rules | `(tactic| walk_at "rng") => `(tactic| (constructor <;> walk_at "side"))
local macro_rules | `(tactic| walk_at "slen") => `(tactic| (rw [T_len]; walk_at "side"))
local macro_rules | `(tactic| walk_at "ascii") => `(tactic| first | assumption | (intro c hc; simp only [List.mem_cons, List.mem_singleton, List.not_mem_nil, or_false] at hc; first | omega | (rcases hc with rfl | rfl <;> omega)))
local macro_rules | `(tactic| walk_at "side") => `(tactic| first | assumption | omega | decide | ((try simp only [List.length_cons, List.length_nil, List.length_append, List.length_map, List.length_drop, List.length_take, List.length_set, List.length_singleton] at *); omega))
local macro_rules | `(tactic| walk_at "nd") => `(tactic| ((try simp only [List.map_cons, List.map_nil]); decide +kernel))

-- D1
section
variable {prog : Program} {w : World} {A : Around} {E : Value → Shared → Prop} {s : Shared} {Q : Value → Shared → Prop}

theorem ifmt_spec {i : Int} {t : Tok} (ok : Ok A 1) (g : Gd w s.heap) (k : ∀ t s', Keeps s s' → Q (.int (Builtin.bitAnd i 61440) t) s') : wpAny (model prog w) A (call (.ref 70) [.int i t]) Q E s := by
  refine fn_enter [("mode", some (.int i t))] g (by have := ok.depth; omega) (by with_unfolding_all rfl) rfl rfl (by kernel_rfl) (by with_unfolding_all rfl) (by dsimp only) (by kernel_rfl) (by kernel_rfl) (by kernel_rfl) (by walk_at "nd") (by walk_at "nd") (by kernel_rfl) ?_
  intro env hE
  with_reducible (refine s_cons ?_; refine s_Return ?_; refine r_BinOp ?_; (refine' r_loc ?ee ?nn ?vv ?_; (case ee => assumption); (case nn => walk_at "has"); (case vv => walk_at "has")); refine r_int (fun _ => ?_); refine i_and (fun _ => ?_); refine n_ret ?_)
  exact fun s' h' => k _ _ h'.toKeeps


theorem subst_spec {c d : Nat} {t u : Tok} (hc : c < 128) (hd : d < 128) (ok : Ok A 1) (g : Gd w s.heap) (k : ∀ t s', Keeps s s' → Q (.int (sub1 c d) t) s') : wpAny (model prog w) A (call (.ref 21) [.str (T [c]) t, .str (T [d]) u]) Q E s := by
  refine fn_enter [("ch_a", some (.str (T [c]) t)), ("ch_b", some (.str (T [d]) u))] g (by have := ok.depth; omega) (by with_unfolding_all rfl) rfl rfl (by kernel_rfl) (by with_unfolding_all rfl) (by dsimp only) (by kernel_rfl) (by kernel_rfl) (by kernel_rfl) (by walk_at "nd") (by walk_at "nd") (by kernel_rfl) ?_
  intro env hE
  with_reducible (refine s_cons ?_; refine s_If ?_; (refine' t_Compare ?_ ?hh; (case hh => with_unfolding_all rfl)); (refine' r_loc ?ee ?nn ?vv ?_; (case ee => assumption); (case nn => walk_at "has"); (case vv => walk_at "has")); (refine' r_loc ?ee ?nn ?vv ?_; (case ee => assumption); (case nn => walk_at "has"); (case vv => walk_at "has")); refine i_seq ?_; refine t_bool ?_)
  refine r_if (fun h => ?_) (fun h => ?_)
  · with_reducible (refine s_cons ?_; refine s_Return ?_; refine r_int (fun _ => ?_); refine n_ret ?_; refine n_ret ?_)
    have e : sub1 c d = 0 := by simp only [decide_eq_true_eq, T_inj] at h; simp [sub1] at h ⊢; omega
    exact fun s' h' => e ▸ k _ _ h'.toKeeps
  · with_reducible (refine s_nil ?_; refine n_next ?_; refine s_cons ?_; refine s_If ?_; (refine' t_Compare ?_ ?hh; (case hh => with_unfolding_all rfl)); (refine' r_Meth ?_ ?hh; (case hh => with_unfolding_all rfl)); (refine' r_loc ?ee ?nn ?vv ?_; (case ee => assumption); (case nn => walk_at "has"); (case vv => walk_at "has")); refine m_lower ?_; refine r_mc ?_; refine r_cw_meth0 ?_; (refine' c_lower ?ss ?aa (fun _ => ?_); (case ss => walk_at "side"); (case aa => walk_at "ascii")); (refine' r_Meth ?_ ?hh; (case hh => with_unfolding_all rfl)); (refine' r_loc ?ee ?nn ?vv ?_; (case ee => assumption); (case nn => walk_at "has"); (case vv => walk_at "has")); refine m_lower ?_; refine r_mc ?_; refine r_cw_meth0 ?_; (refine' c_lower ?ss ?aa (fun _ => ?_); (case ss => walk_at "side"); (case aa => walk_at "ascii")); refine i_seq ?_; refine t_bool ?_)
    refine r_if (fun h2 => ?_) (fun h2 => ?_)
    · with_reducible (refine s_cons ?_; refine s_Return ?_; (refine' r_glob ?ee ?nn ?vv ?_; (case ee => assumption); (case nn => walk_at "has"); (case vv => walk_at "has")); refine n_ret ?_; refine n_ret ?_)
      have e : sub1 c d = 1 := by simp only [decide_eq_true_eq, decide_eq_false_iff_not, T_inj, List.map_cons, List.map_nil, List.cons.injEq, and_true] at h h2; simp [sub1, h, h2]
      exact fun s' h' => e ▸ k _ _ h'.toKeeps
    · with_reducible (refine s_nil ?_; refine n_next ?_; refine s_cons ?_; refine s_Return ?_; (refine' r_glob ?ee ?nn ?vv ?_; (case ee => assumption); (case nn => walk_at "has"); (case vv => walk_at "has")); refine n_ret ?_)
      have e : sub1 c d = 2 := by simp only [decide_eq_true_eq, decide_eq_false_iff_not, T_inj, List.map_cons, List.map_nil, List.cons.injEq, and_true] at h h2; simp [sub1, h, h2]
      exact fun s' h' => e ▸ k _ _ h'.toKeeps
theorem ifmt_call {L : Addr} {b : Shared} {fr : Frm} {nw : Led} {i : Int} {t : Tok} (ok : Ok A 1) (h : ∀ t, St w L b fr nw (Q (.int (Builtin.bitAnd i 61440) t))) : St w L b fr nw (wpAny (model prog w) A (call (.ref 70) [.int i t]) Q E) := fun s hs => ifmt_spec ok hs.gds fun t s' k => h t s' (hs.keeps k)
theorem subst_call {L : Addr} {b : Shared} {fr : Frm} {nw : Led} {c d : Nat} {t u : Tok} (hc : c < 128) (hd : d < 128) (ok : Ok A 1) (h : ∀ t, St w L b fr nw (Q (.int (sub1 c d) t))) : St w L b fr nw (wpAny (model prog w) A (call (.ref 21) [.str (T [c]) t, .str (T [d]) u]) Q E) := fun s hs => subst_spec hc hd ok hs.gds fun t s' k => h t s' (hs.keeps k)
end

-- D2c
abbrev frL (va vb vm vpre vpost vrow vres vbi vbc vdist vmin vidx vsub vins : Option Value) : Frm :=
  [("a", va), ("b", vb), ("max_cost", vm), ("pre", vpre), ("post", vpost), ("row", vrow), ("result", vres), ("bindex", vbi), ("bchar", vbc), ("distance", vdist), ("minimum", vmin), ("index", vidx), ("substitute", vsub), ("insert_delete", vins)]

abbrev nsL : List (Str × NameKind) := [("a", .local), ("b", .local), ("max_cost", .local), ("pre", .local), ("post", .local), ("row", .local), ("result", .local), ("bindex", .local), ("bchar", .local), ("distance", .local), ("minimum", .local), ("index", .local), ("substitute", .local), ("insert_delete", .local),
  ("_MOVE_COST", .globalImplicit), ("len", .globalImplicit), ("_MAX_STRING_SIZE", .globalImplicit), ("list", .globalImplicit), ("range", .globalImplicit), ("_substitution_cost", .globalImplicit), ("min", .globalImplicit)]

section
variable {prog : Program} {w : World} {A : Around} {E : Value → Shared → Prop} {s : Shared} {Q : Value → Shared → Prop}

theorem lev_dp {env : Env} {x y : List Nat} {m : Int} {t u v : Tok} {o1 o2 : Option Value} (ha : ∀ c ∈ x, c < 128) (hb : ∀ c ∈ y, c < 128) (hla : x.length ≤ 20) (hlb : y.length ≤ 20) (hx : 0 < x.length) (hxy : x.length ≤ y.length)
    (hE : EnvOk env nsL) (ok' : Ok A 2) (k : ∀ r t s', (dist x y ≤ m → r = dist x y) → (m < dist x y → m < r) → Keeps s s' → Q (.int r t) s') :
    St w env.locals s (frL (some (.str (T x) t)) (some (.str (T y) u)) (some (.int m v)) o1 o2 none none none none none none none none none) [] (wpAny (model prog w) A (execs ((bodyOf 28).drop 12) env) (fun fl s' => Q (match fl with | .ret v => v | _ => .none) s') FF) := by
  with_unfolding_all show St _ _ _ _ _ (wpAny _ _ (execs (_ :: _) _) _ _)
  have hh := ok'.handled
  have hdd : dist y x = dist x y := dist_symm y x
  with_reducible (refine s_cons ?_; refine s_If ?_; (refine' t_Compare ?_ ?hh; (case hh => with_unfolding_all rfl)); refine r_BinOp ?_; refine r_BinOp ?_; refine r_CallN ?_; (refine' r_glob ?ee ?nn ?vv ?_; (case ee => assumption); (case nn => walk_at "has"); (case vv => walk_at "has")); (refine' r_cw_builtin ?_ ?hh ?gg; (case hh => with_unfolding_all rfl); (case gg => with_unfolding_all rfl)); (refine' r_args ?_ ?hh; (case hh => with_unfolding_all rfl)); (refine' r_loc ?ee ?nn ?vv ?_; (case ee => assumption); (case nn => walk_at "has"); (case vv => walk_at "has")); refine r_args_nil ?_; (refine' c_len_str ?ss (fun _ => ?_); (case ss => walk_at "side")); refine r_CallN ?_; (refine' r_glob ?ee ?nn ?vv ?_; (case ee => assumption); (case nn => walk_at "has"); (case vv => walk_at "has")); (refine' r_cw_builtin ?_ ?hh ?gg; (case hh => with_unfolding_all rfl); (case gg => with_unfolding_all rfl)); (refine' r_args ?_ ?hh; (case hh => with_unfolding_all rfl)); (refine' r_loc ?ee ?nn ?vv ?_; (case ee => assumption); (case nn => walk_at "has"); (case vv => walk_at "has")); refine r_args_nil ?_; (refine' c_len_str ?ss (fun _ => ?_); (case ss => walk_at "side")); refine i_sub (fun _ => ?_); (refine' r_glob ?ee ?nn ?vv ?_; (case ee => assumption); (case nn => walk_at "has"); (case vv => walk_at "has")); (refine' i_mul ?ss (fun _ => ?_); (case ss => walk_at "rng")); (refine' r_loc ?ee ?nn ?vv ?_; (case ee => assumption); (case nn => walk_at "has"); (case vv => walk_at "has")); refine i_gt ?_; refine t_bool ?_)
  refine r_if (fun h => ?_) (fun h => ?_)
  · with_reducible (refine s_cons ?_; refine s_Return ?_; refine r_BinOp ?_; (refine' r_loc ?ee ?nn ?vv ?_; (case ee => assumption); (case nn => walk_at "has"); (case vv => walk_at "has")); refine r_int (fun _ => ?_); refine i_add (fun _ => ?_); refine n_ret ?_; refine n_ret ?_)
    have hlt : m < dist x y := by
      have := dist_lb x y
      simp only [decide_eq_true_eq] at h
      omega
    exact fun s' h' => k _ _ _ (fun q => by omega) (fun _ => by omega) h'.toKeeps
  · with_reducible (refine s_nil ?_; refine n_next ?_; refine s_cons ?_; (refine' s_Assign ?_ ?hh; (case hh => with_unfolding_all rfl)); refine r_CallN ?_; (refine' r_glob ?ee ?nn ?vv ?_; (case ee => assumption); (case nn => walk_at "has"); (case vv => walk_at "has")); (refine' r_cw_type ?_ ?hh ?gg; (case hh => with_unfolding_all rfl); (case gg => with_unfolding_all rfl)); (refine' r_args ?_ ?hh; (case hh => with_unfolding_all rfl)); refine r_CallN ?_; (refine' r_glob ?ee ?nn ?vv ?_; (case ee => assumption); (case nn => walk_at "has"); (case vv => walk_at "has")); (refine' r_cw_type ?_ ?hh ?gg; (case hh => with_unfolding_all rfl); (case gg => with_unfolding_all rfl)); (refine' r_args ?_ ?hh; (case hh => with_unfolding_all rfl)); (refine' r_glob ?ee ?nn ?vv ?_; (case ee => assumption); (case nn => walk_at "has"); (case vv => walk_at "has")); (refine' r_args ?_ ?hh; (case hh => with_unfolding_all rfl)); refine r_BinOp ?_; (refine' r_glob ?ee ?nn ?vv ?_; (case ee => assumption); (case nn => walk_at "has"); (case vv => walk_at "has")); refine r_BinOp ?_; refine r_CallN ?_; (refine' r_glob ?ee ?nn ?vv ?_; (case ee => assumption); (case nn => walk_at "has"); (case vv => walk_at "has")); (refine' r_cw_builtin ?_ ?hh ?gg; (case hh => with_unfolding_all rfl); (case gg => with_unfolding_all rfl)); (refine' r_args ?_ ?hh; (case hh => with_unfolding_all rfl)); (refine' r_loc ?ee ?nn ?vv ?_; (case ee => assumption); (case nn => walk_at "has"); (case vv => walk_at "has")); refine r_args_nil ?_; (refine' c_len_str ?ss (fun _ => ?_); (case ss => walk_at "side")); refine r_int (fun _ => ?_); refine i_add (fun _ => ?_); (refine' i_mul ?ss (fun _ => ?_); (case ss => walk_at "rng")); (refine' r_args ?_ ?hh; (case hh => with_unfolding_all rfl)); (refine' r_glob ?ee ?nn ?vv ?_; (case ee => assumption); (case nn => walk_at "has"); (case vv => walk_at "has")); refine r_args_nil ?_)
    refine c_range3 (by decide) (by omega) (by omega) (fun _ => ?_)
    with_reducible (refine r_args_nil ?_)
    refine c_list_range (k := x.length) hh (by omega) (by omega) (by decide) ?_ (by omega) (fun R vs hvs => ?_)
    · unfold Builtin.Range.rangeSize
      rw [if_pos (by decide), if_pos (by omega)]
      omega
    rw [← rowM_start (lf y x)] at hvs
    with_reducible ((refine' r_store ?ee ?nn ?vv ?_; (case ee => assumption); (case nn => walk_at "has"); (case vv => walk_at "put")); refine n_next ?_; refine s_cons ?_; (refine' s_Assign ?_ ?hh; (case hh => with_unfolding_all rfl)); refine r_int (fun _ => ?_); (refine' r_store ?ee ?nn ?vv ?_; (case ee => assumption); (case nn => walk_at "has"); (case vv => walk_at "put")); refine n_next ?_; refine s_cons ?_; (refine' s_For ?_ ?hh; (case hh => (intro _; with_unfolding_all rfl))); refine r_CallN ?_; (refine' r_glob ?ee ?nn ?vv ?_; (case ee => assumption); (case nn => walk_at "has"); (case vv => walk_at "has")); (refine' r_cw_type ?_ ?hh ?gg; (case hh => with_unfolding_all rfl); (case gg => with_unfolding_all rfl)); (refine' r_args ?_ ?hh; (case hh => with_unfolding_all rfl)); refine r_CallN ?_; (refine' r_glob ?ee ?nn ?vv ?_; (case ee => assumption); (case nn => walk_at "has"); (case vv => walk_at "has")); (refine' r_cw_builtin ?_ ?hh ?gg; (case hh => with_unfolding_all rfl); (case gg => with_unfolding_all rfl)); (refine' r_args ?_ ?hh; (case hh => with_unfolding_all rfl)); (refine' r_loc ?ee ?nn ?vv ?_; (case ee => assumption); (case nn => walk_at "has"); (case vv => walk_at "has")); refine r_args_nil ?_; (refine' c_len_str ?ss (fun _ => ?_); (case ss => walk_at "side")); refine r_args_nil ?_; refine c_range1 (fun _ _ _ => ?_))
    refine f_range (fun i fr nw => ∃ vs res tr p1 p2 p3 p4 p5 p6 p7, fr = frL (some (.str (T x) t)) (some (.str (T y) u)) (some (.int m v)) o1 o2 (some (.ref R)) (some (.int res tr)) p1 p2 p3 p4 p5 p6 p7 ∧ nw = [(R, .list vs)] ∧ IntsAre vs (rowM (lf y x) x.length i 0) ∧ (0 < i → res = cell (lf y x) i x.length)) hh (by omega) ⟨_, _, _, _, _, _, _, _, _, _, rfl, rfl, hvs, fun h => absurd h (Nat.lt_irrefl _)⟩ ?_ ?_
    · rintro i fr nw b' tt hi ⟨vs, res, tr, p1, p2, p3, p4, p5, p6, p7, rfl, rfl, hvs, hres⟩ kb
      obtain ⟨c, hc⟩ : ∃ c, y[i]? = some c := ⟨y[i], by simp [hi]⟩
      have hc128 : c < 128 := hb c (List.mem_of_getElem? hc)
      with_reducible ((refine' r_store ?ee ?nn ?vv ?_; (case ee => assumption); (case nn => walk_at "has"); (case vv => walk_at "put")); refine s_cons ?_; (refine' s_Assign ?_ ?hh; (case hh => with_unfolding_all rfl)); refine r_Subscript ?_; (refine' r_loc ?ee ?nn ?vv ?_; (case ee => assumption); (case nn => walk_at "has"); (case vv => walk_at "has")); (refine' r_loc ?ee ?nn ?vv ?_; (case ee => assumption); (case nn => walk_at "has"); (case vv => walk_at "has")))
      refine x_str_item (j := i) (c := c) (by walk_at "side") (by rw [if_neg (by omega)]) hc (fun tc => ?_)
      with_reducible ((refine' r_store ?ee ?nn ?vv ?_; (case ee => assumption); (case nn => walk_at "has"); (case vv => walk_at "put")); refine n_next ?_; refine s_cons ?_; (refine' s_Assign2 ?_ ?hh; (case hh => with_unfolding_all rfl)); refine r_BinOp ?_; (refine' r_loc ?ee ?nn ?vv ?_; (case ee => assumption); (case nn => walk_at "has"); (case vv => walk_at "has")); (refine' r_glob ?ee ?nn ?vv ?_; (case ee => assumption); (case nn => walk_at "has"); (case vv => walk_at "has")); (refine' i_mul ?ss (fun _ => ?_); (case ss => walk_at "rng")); (refine' r_store ?ee ?nn ?vv ?_; (case ee => assumption); (case nn => walk_at "has"); (case vv => walk_at "put")); (refine' r_store ?ee ?nn ?vv ?_; (case ee => assumption); (case nn => walk_at "has"); (case vv => walk_at "put")); refine n_next ?_; refine s_cons ?_; (refine' s_Assign ?_ ?hh; (case hh => with_unfolding_all rfl)); refine r_int (fun _ => ?_); (refine' r_store ?ee ?nn ?vv ?_; (case ee => assumption); (case nn => walk_at "has"); (case vv => walk_at "put")); refine n_next ?_; refine s_cons ?_; (refine' s_For ?_ ?hh; (case hh => (intro _; with_unfolding_all rfl))); refine r_CallN ?_; (refine' r_glob ?ee ?nn ?vv ?_; (case ee => assumption); (case nn => walk_at "has"); (case vv => walk_at "has")); (refine' r_cw_type ?_ ?hh ?gg; (case hh => with_unfolding_all rfl); (case gg => with_unfolding_all rfl)); (refine' r_args ?_ ?hh; (case hh => with_unfolding_all rfl)); refine r_CallN ?_; (refine' r_glob ?ee ?nn ?vv ?_; (case ee => assumption); (case nn => walk_at "has"); (case vv => walk_at "has")); (refine' r_cw_builtin ?_ ?hh ?gg; (case hh => with_unfolding_all rfl); (case gg => with_unfolding_all rfl)); (refine' r_args ?_ ?hh; (case hh => with_unfolding_all rfl)); (refine' r_loc ?ee ?nn ?vv ?_; (case ee => assumption); (case nn => walk_at "has"); (case vv => walk_at "has")); refine r_args_nil ?_; (refine' c_len_str ?ss (fun _ => ?_); (case ss => walk_at "side")); refine r_args_nil ?_; refine c_range1 (fun _ _ _ => ?_))
      refine f_range (fun k fr nw => ∃ vs res tr dst td mn tm p5 p6 p7, fr = frL (some (.str (T x) t)) (some (.str (T y) u)) (some (.int m v)) o1 o2 (some (.ref R)) (some (.int res tr)) (some (.int (i : Int) tt)) (some (.str (T [c]) tc)) (some (.int dst td)) (some (.int mn tm)) p5 p6 p7 ∧ nw = [(R, .list vs)] ∧ IntsAre vs (rowM (lf y x) x.length i k) ∧
          (k = 0 → res = 2 * (i : Int)) ∧ (0 < k → res = cell (lf y x) (i + 1) k) ∧ dst = cell (lf y x) i k ∧ ∀ j, j < k → mn ≤ cell (lf y x) (i + 1) (j + 1)) hh (by omega) ⟨_, _, _, _, _, _, _, _, _, _, rfl, rfl, hvs, fun _ => by omega, fun h => absurd h (Nat.lt_irrefl _), by rw [cell_col]; omega, fun j h => absurd h (Nat.not_lt_zero _)⟩ ?_ ?_
      · rintro k fr nw b2 tk hk ⟨vs, res, tr, dst, td, mn, tm, p5, p6, p7, rfl, rfl, hvs, h0, h1, rfl, hmn⟩ kb2
        obtain ⟨d, hd⟩ : ∃ d, x[k]? = some d := ⟨x[k], by simp [hk]⟩
        have hd128 : d < 128 := ha d (List.mem_of_getElem? hd)
        obtain ⟨t3, h3⟩ := ints_get hvs (rowM_get (f := lf y x) (i := i) (k := k) hk)
        rw [if_neg (Nat.lt_irrefl k)] at h3
        have hlen : vs.length = x.length := by rw [hvs.length, rowM_len]
        have hf : lf y x i k = sub1 c d := by simp [lf, hc, hd]
        with_reducible ((refine' r_store ?ee ?nn ?vv ?_; (case ee => assumption); (case nn => walk_at "has"); (case vv => walk_at "put")); refine s_cons ?_; (refine' s_Assign ?_ ?hh; (case hh => with_unfolding_all rfl)); refine r_BinOp ?_; (refine' r_loc ?ee ?nn ?vv ?_; (case ee => assumption); (case nn => walk_at "has"); (case vv => walk_at "has")); refine r_CallN ?_; (refine' r_glob ?ee ?nn ?vv ?_; (case ee => assumption); (case nn => walk_at "has"); (case vv => walk_at "has")); (refine' r_cw_def ?ff ?_ ?hh; (case ff => walk_at "isfn"); (case hh => with_unfolding_all rfl)); (refine' r_args ?_ ?hh; (case hh => with_unfolding_all rfl)); (refine' r_loc ?ee ?nn ?vv ?_; (case ee => assumption); (case nn => walk_at "has"); (case vv => walk_at "has")); (refine' r_args ?_ ?hh; (case hh => with_unfolding_all rfl)); refine r_Subscript ?_; (refine' r_loc ?ee ?nn ?vv ?_; (case ee => assumption); (case nn => walk_at "has"); (case vv => walk_at "has")); (refine' r_loc ?ee ?nn ?vv ?_; (case ee => assumption); (case nn => walk_at "has"); (case vv => walk_at "has")))
        refine x_str_item (j := k) (c := d) (by walk_at "side") (by rw [if_neg (by omega)]) hd (fun _ => ?_)
        with_reducible (refine r_args_nil ?_; refine r_fn ?_)
        refine subst_call hc128 hd128 (ok'.le (by omega)) (fun _ => ?_)
        with_reducible (refine i_add (fun _ => ?_); (refine' r_store ?ee ?nn ?vv ?_; (case ee => assumption); (case nn => walk_at "has"); (case vv => walk_at "put")); refine n_next ?_; refine s_cons ?_; (refine' s_Assign ?_ ?hh; (case hh => with_unfolding_all rfl)); refine r_Subscript ?_; (refine' r_loc ?ee ?nn ?vv ?_; (case ee => assumption); (case nn => walk_at "has"); (case vv => walk_at "has")); (refine' r_loc ?ee ?nn ?vv ?_; (case ee => assumption); (case nn => walk_at "has"); (case vv => walk_at "has")))
        refine x_list_item (seesL_nw (by walk_at "has")) (by omega) (by omega) (by simpa using h3) ?_
        with_reducible ((refine' r_store ?ee ?nn ?vv ?_; (case ee => assumption); (case nn => walk_at "has"); (case vv => walk_at "put")); refine n_next ?_; refine s_cons ?_; (refine' s_Assign ?_ ?hh; (case hh => with_unfolding_all rfl)); refine r_BinOp ?_; refine r_CallN ?_; (refine' r_glob ?ee ?nn ?vv ?_; (case ee => assumption); (case nn => walk_at "has"); (case vv => walk_at "has")); (refine' r_cw_builtin ?_ ?hh ?gg; (case hh => with_unfolding_all rfl); (case gg => with_unfolding_all rfl)); (refine' r_args ?_ ?hh; (case hh => with_unfolding_all rfl)); (refine' r_loc ?ee ?nn ?vv ?_; (case ee => assumption); (case nn => walk_at "has"); (case vv => walk_at "has")); (refine' r_args ?_ ?hh; (case hh => with_unfolding_all rfl)); (refine' r_loc ?ee ?nn ?vv ?_; (case ee => assumption); (case nn => walk_at "has"); (case vv => walk_at "has")); refine r_args_nil ?_; (refine' c_min2 ?hh (fun _ => ?_); (case hh => assumption)); (refine' r_glob ?ee ?nn ?vv ?_; (case ee => assumption); (case nn => walk_at "has"); (case vv => walk_at "has")); refine i_add (fun _ => ?_); (refine' r_store ?ee ?nn ?vv ?_; (case ee => assumption); (case nn => walk_at "has"); (case vv => walk_at "put")); refine n_next ?_; refine s_cons ?_; (refine' s_Assign ?_ ?hh; (case hh => with_unfolding_all rfl)); refine r_CallN ?_; (refine' r_glob ?ee ?nn ?vv ?_; (case ee => assumption); (case nn => walk_at "has"); (case vv => walk_at "has")); (refine' r_cw_builtin ?_ ?hh ?gg; (case hh => with_unfolding_all rfl); (case gg => with_unfolding_all rfl)); (refine' r_args ?_ ?hh; (case hh => with_unfolding_all rfl)); (refine' r_loc ?ee ?nn ?vv ?_; (case ee => assumption); (case nn => walk_at "has"); (case vv => walk_at "has")); (refine' r_args ?_ ?hh; (case hh => with_unfolding_all rfl)); (refine' r_loc ?ee ?nn ?vv ?_; (case ee => assumption); (case nn => walk_at "has"); (case vv => walk_at "has")); refine r_args_nil ?_; (refine' c_min2 ?hh (fun _ => ?_); (case hh => assumption)); (refine' r_store ?ee ?nn ?vv ?_; (case ee => assumption); (case nn => walk_at "has"); (case vv => walk_at "put")); refine n_next ?_; refine s_cons ?_; (refine' s_AssignSub ?_ ?hh; (case hh => with_unfolding_all rfl)); (refine' r_loc ?ee ?nn ?vv ?_; (case ee => assumption); (case nn => walk_at "has"); (case vv => walk_at "has")); (refine' r_loc ?ee ?nn ?vv ?_; (case ee => assumption); (case nn => walk_at "has"); (case vv => walk_at "has")); (refine' r_loc ?ee ?nn ?vv ?_; (case ee => assumption); (case nn => walk_at "has"); (case vv => walk_at "has")))
        rw [show min (min res (cell (lf y x) i (k + 1)) + 2) (cell (lf y x) i k + sub1 c d) = cell (lf y x) (i + 1) (k + 1) from hf ▸ step_cell (lf_nonneg _ _) (lf_le _ _) h0 h1]
        skip
        refine r_setItem (by walk_at "has") (by omega) (by omega) (by omega) (by walk_at "put") ?_
        with_reducible (refine n_next ?_; refine s_cons ?_; refine s_If ?_; (refine' t_Compare ?_ ?hh; (case hh => with_unfolding_all rfl)); (refine' r_loc ?ee ?nn ?vv ?_; (case ee => assumption); (case nn => walk_at "has"); (case vv => walk_at "has")); (refine' r_loc ?ee ?nn ?vv ?_; (case ee => assumption); (case nn => walk_at "has"); (case vv => walk_at "has")); refine i_lt ?_; refine t_bool ?_)
        have hvs2 := ints_set hvs k (cell (lf y x) (i + 1) (k + 1))
        rw [rowM_set hk] at hvs2
        refine r_if (fun h => ?_) (fun h => ?_)
        · simp only [decide_eq_true_eq] at h
          with_reducible (refine s_cons ?_; (refine' s_Assign ?_ ?hh; (case hh => with_unfolding_all rfl)); (refine' r_loc ?ee ?nn ?vv ?_; (case ee => assumption); (case nn => walk_at "has"); (case vv => walk_at "has")); (refine' r_store ?ee ?nn ?vv ?_; (case ee => assumption); (case nn => walk_at "has"); (case vv => walk_at "put")); refine n_next ?_; refine s_nil ?_; refine n_next ?_; refine s_nil ?_)
          refine lk_next ⟨_, _, _, _, _, _, _, _, _, _, rfl, rfl, hvs2 _, fun h => by omega, fun _ => rfl, rfl, fun j hj => ?_⟩
          rcases Nat.lt_succ_iff_lt_or_eq.mp hj with hj | rfl
          · have := hmn j hj; omega
          · omega
        · simp only [decide_eq_false_iff_not] at h
          with_reducible (refine s_nil ?_; refine n_next ?_; refine s_nil ?_)
          refine lk_next ⟨_, _, _, _, _, _, _, _, _, _, rfl, rfl, hvs2 _, fun h => by omega, fun _ => rfl, rfl, fun j hj => ?_⟩
          rcases Nat.lt_succ_iff_lt_or_eq.mp hj with hj | rfl
          · exact hmn j hj
          · omega
      · rintro fr nw ⟨vs, res, tr, dst, td, mn, tm, p5, p6, p7, rfl, rfl, hvs, h0, h1, rfl, hmn⟩
        with_reducible (refine s_nil ?_; refine n_next ?_; refine s_cons ?_; refine s_If ?_; (refine' t_Compare ?_ ?hh; (case hh => with_unfolding_all rfl)); (refine' r_loc ?ee ?nn ?vv ?_; (case ee => assumption); (case nn => walk_at "has"); (case vv => walk_at "has")); (refine' r_loc ?ee ?nn ?vv ?_; (case ee => assumption); (case nn => walk_at "has"); (case vv => walk_at "has")); refine i_gt ?_; refine t_bool ?_)
        refine r_if (fun h => ?_) (fun h => ?_)
        · simp only [decide_eq_true_eq] at h
          with_reducible (refine s_cons ?_; refine s_Return ?_; refine r_BinOp ?_; (refine' r_loc ?ee ?nn ?vv ?_; (case ee => assumption); (case nn => walk_at "has"); (case vv => walk_at "has")); refine r_int (fun _ => ?_); refine i_add (fun _ => ?_); refine n_ret ?_; refine n_ret ?_; refine lk_ret ?_; refine n_ret ?_)
          have hlt : m < dist x y := by
            rw [← hdd]
            exact early (lf_nonneg _ _) (lf_le _ _) hx hi hmn h
          exact fun s' h' => k _ _ _ (fun q => by omega) (fun _ => by omega) (Keeps.trans' kb h'.toKeeps)
        · with_reducible (refine s_nil ?_; refine n_next ?_; refine s_nil ?_)
          exact lk_next ⟨_, _, _, _, _, _, _, _, _, _, rfl, rfl, rowM_next (lf y x) _ _ ▸ hvs, fun _ => h1 hx⟩
    · rintro fr nw ⟨vs, res, tr, p1, p2, p3, p4, p5, p6, p7, rfl, rfl, hvs, hres⟩
      with_reducible (refine s_nil ?_; refine n_next ?_; refine s_cons ?_; refine s_Return ?_; (refine' r_loc ?ee ?nn ?vv ?_; (case ee => assumption); (case nn => walk_at "has"); (case vv => walk_at "has")); refine n_ret ?_)
      have e : res = dist x y := by rw [← hdd]; exact hres (by omega)
      exact fun s' h' => k _ _ _ (fun _ => e) (fun _ => by omega) h'.toKeeps
end

-- D2b
section
variable {prog : Program} {w : World} {A : Around} {E : Value → Shared → Prop} {s : Shared} {Q : Value → Shared → Prop}

theorem lev_mid {env : Env} {x y : List Nat} {m : Int} {t u v : Tok} {o1 o2 : Option Value} (ha : ∀ c ∈ x, c < 128) (hb : ∀ c ∈ y, c < 128) (hla : x.length ≤ 20) (hlb : y.length ≤ 20)
    (hE : EnvOk env nsL) (ok' : Ok A 2) (k : ∀ r t s', (dist x y ≤ m → r = dist x y) → (m < dist x y → m < r) → Keeps s s' → Q (.int r t) s') :
    St w env.locals s (frL (some (.str (T x) t)) (some (.str (T y) u)) (some (.int m v)) o1 o2 none none none none none none none none none) [] (wpAny (model prog w) A (execs ((bodyOf 28).drop 9) env) (fun fl s' => Q (match fl with | .ret v => v | _ => .none) s') FF) := by
  with_unfolding_all show St _ _ _ _ _ (wpAny _ _ (execs (_ :: _) _) _ _)
  have hh := ok'.handled
  refine s_cons ?_
  refine n_cut (fun fr nw => 0 < x.length ∧ 0 < y.length ∧ fr = frL (some (.str (T x) t)) (some (.str (T y) u)) (some (.int m v)) o1 o2 none none none none none none none none none ∧ nw = []) ?_ ?_
  · with_reducible (refine s_If ?_; refine t_BoolOp ?_; refine t_Or ?_; refine t_Not ?_; (refine' t_val ?_ ?hh; (case hh => with_unfolding_all rfl)); (refine' r_loc ?ee ?nn ?vv ?_; (case ee => assumption); (case nn => walk_at "has"); (case vv => walk_at "has")); (refine' t_str ?ss ?_; (case ss => walk_at "slen")))
    refine r_if (fun h => ?_) (fun h => ?_)
    · simp only [Bool.not_eq_true', decide_eq_false_iff_not, T_len, Decidable.not_not] at h
      refine r_if (fun _ => ?_) (fun h4 => nomatch h4)
      with_reducible (refine s_cons ?_; refine s_Return ?_; refine r_BinOp ?_; (refine' r_glob ?ee ?nn ?vv ?_; (case ee => assumption); (case nn => walk_at "has"); (case vv => walk_at "has")); refine r_BinOp ?_; refine r_CallN ?_; (refine' r_glob ?ee ?nn ?vv ?_; (case ee => assumption); (case nn => walk_at "has"); (case vv => walk_at "has")); (refine' r_cw_builtin ?_ ?hh ?gg; (case hh => with_unfolding_all rfl); (case gg => with_unfolding_all rfl)); (refine' r_args ?_ ?hh; (case hh => with_unfolding_all rfl)); (refine' r_loc ?ee ?nn ?vv ?_; (case ee => assumption); (case nn => walk_at "has"); (case vv => walk_at "has")); refine r_args_nil ?_; (refine' c_len_str ?ss (fun _ => ?_); (case ss => walk_at "side")); refine r_CallN ?_; (refine' r_glob ?ee ?nn ?vv ?_; (case ee => assumption); (case nn => walk_at "has"); (case vv => walk_at "has")); (refine' r_cw_builtin ?_ ?hh ?gg; (case hh => with_unfolding_all rfl); (case gg => with_unfolding_all rfl)); (refine' r_args ?_ ?hh; (case hh => with_unfolding_all rfl)); (refine' r_loc ?ee ?nn ?vv ?_; (case ee => assumption); (case nn => walk_at "has"); (case vv => walk_at "has")); refine r_args_nil ?_; (refine' c_len_str ?ss (fun _ => ?_); (case ss => walk_at "side")); refine i_add (fun _ => ?_); (refine' i_mul ?ss (fun _ => ?_); (case ss => walk_at "rng")); refine n_ret ?_; refine ck_ret ?_)
      have e := dist_nil x y (Or.inl (List.eq_nil_of_length_eq_zero h))
      exact fun s' h' => k _ _ _ (fun _ => e.symm) (fun q => e ▸ q) h'.toKeeps
    · with_reducible (refine t_Or ?_; refine t_Not ?_; (refine' t_val ?_ ?hh; (case hh => with_unfolding_all rfl)); (refine' r_loc ?ee ?nn ?vv ?_; (case ee => assumption); (case nn => walk_at "has"); (case vv => walk_at "has")); (refine' t_str ?ss ?_; (case ss => walk_at "slen")))
      refine r_if (fun h2 => ?_) (fun h2 => ?_)
      · simp only [Bool.not_eq_true', decide_eq_false_iff_not, T_len, Decidable.not_not] at h2
        refine r_if (fun _ => ?_) (fun h4 => nomatch h4)
        with_reducible (refine s_cons ?_; refine s_Return ?_; refine r_BinOp ?_; (refine' r_glob ?ee ?nn ?vv ?_; (case ee => assumption); (case nn => walk_at "has"); (case vv => walk_at "has")); refine r_BinOp ?_; refine r_CallN ?_; (refine' r_glob ?ee ?nn ?vv ?_; (case ee => assumption); (case nn => walk_at "has"); (case vv => walk_at "has")); (refine' r_cw_builtin ?_ ?hh ?gg; (case hh => with_unfolding_all rfl); (case gg => with_unfolding_all rfl)); (refine' r_args ?_ ?hh; (case hh => with_unfolding_all rfl)); (refine' r_loc ?ee ?nn ?vv ?_; (case ee => assumption); (case nn => walk_at "has"); (case vv => walk_at "has")); refine r_args_nil ?_; (refine' c_len_str ?ss (fun _ => ?_); (case ss => walk_at "side")); refine r_CallN ?_; (refine' r_glob ?ee ?nn ?vv ?_; (case ee => assumption); (case nn => walk_at "has"); (case vv => walk_at "has")); (refine' r_cw_builtin ?_ ?hh ?gg; (case hh => with_unfolding_all rfl); (case gg => with_unfolding_all rfl)); (refine' r_args ?_ ?hh; (case hh => with_unfolding_all rfl)); (refine' r_loc ?ee ?nn ?vv ?_; (case ee => assumption); (case nn => walk_at "has"); (case vv => walk_at "has")); refine r_args_nil ?_; (refine' c_len_str ?ss (fun _ => ?_); (case ss => walk_at "side")); refine i_add (fun _ => ?_); (refine' i_mul ?ss (fun _ => ?_); (case ss => walk_at "rng")); refine n_ret ?_; refine ck_ret ?_)
        have e := dist_nil x y (Or.inr (List.eq_nil_of_length_eq_zero h2))
        exact fun s' h' => k _ _ _ (fun _ => e.symm) (fun q => e ▸ q) h'.toKeeps
      · simp only [Bool.not_eq_false', decide_eq_true_eq, T_len] at h h2
        with_reducible (refine t_Or_nil ?_)
        refine r_if (fun h4 => nomatch h4) (fun _ => ?_)
        with_reducible (refine s_nil ?_)
        exact ck_next ⟨by omega, by omega, rfl, rfl⟩ (Keeps.rfl' _)
  · rintro fr nw ⟨hx, hy, rfl, rfl⟩
    refine s_cons ?_
    refine n_cut (fun fr nw => fr = frL (some (.str (T x) t)) (some (.str (T y) u)) (some (.int m v)) o1 o2 none none none none none none none none none ∧ nw = []) ?_ ?_
    · with_reducible (refine s_If ?_; refine t_BoolOp ?_; refine t_Or ?_; (refine' t_Compare ?_ ?hh; (case hh => with_unfolding_all rfl)); refine r_CallN ?_; (refine' r_glob ?ee ?nn ?vv ?_; (case ee => assumption); (case nn => walk_at "has"); (case vv => walk_at "has")); (refine' r_cw_builtin ?_ ?hh ?gg; (case hh => with_unfolding_all rfl); (case gg => with_unfolding_all rfl)); (refine' r_args ?_ ?hh; (case hh => with_unfolding_all rfl)); (refine' r_loc ?ee ?nn ?vv ?_; (case ee => assumption); (case nn => walk_at "has"); (case vv => walk_at "has")); refine r_args_nil ?_; (refine' c_len_str ?ss (fun _ => ?_); (case ss => walk_at "side")); (refine' r_glob ?ee ?nn ?vv ?_; (case ee => assumption); (case nn => walk_at "has"); (case vv => walk_at "has")); refine i_gt ?_; refine t_bool ?_)
      refine r_if (fun h => ?_) (fun h => ?_)
      · simp only [decide_eq_true_eq] at h
        omega
      · with_reducible (refine t_Or ?_; (refine' t_Compare ?_ ?hh; (case hh => with_unfolding_all rfl)); refine r_CallN ?_; (refine' r_glob ?ee ?nn ?vv ?_; (case ee => assumption); (case nn => walk_at "has"); (case vv => walk_at "has")); (refine' r_cw_builtin ?_ ?hh ?gg; (case hh => with_unfolding_all rfl); (case gg => with_unfolding_all rfl)); (refine' r_args ?_ ?hh; (case hh => with_unfolding_all rfl)); (refine' r_loc ?ee ?nn ?vv ?_; (case ee => assumption); (case nn => walk_at "has"); (case vv => walk_at "has")); refine r_args_nil ?_; (refine' c_len_str ?ss (fun _ => ?_); (case ss => walk_at "side")); (refine' r_glob ?ee ?nn ?vv ?_; (case ee => assumption); (case nn => walk_at "has"); (case vv => walk_at "has")); refine i_gt ?_; refine t_bool ?_)
        refine r_if (fun h2 => ?_) (fun h2 => ?_)
        · simp only [decide_eq_true_eq] at h2
          omega
        · with_reducible (refine t_Or_nil ?_)
          refine r_if (fun h4 => nomatch h4) (fun _ => ?_)
          with_reducible (refine s_nil ?_)
          exact ck_next ⟨rfl, rfl⟩ (Keeps.rfl' _)
    · rintro fr nw ⟨rfl, rfl⟩
      refine s_cons ?_
      refine n_cut (fun fr nw => ∃ x' y' t' u', ((x' = x ∧ y' = y) ∨ (x' = y ∧ y' = x)) ∧ x'.length ≤ y'.length ∧ fr = frL (some (.str (T x') t')) (some (.str (T y') u')) (some (.int m v)) o1 o2 none none none none none none none none none ∧ nw = []) ?_ ?_
      · with_reducible (refine s_If ?_; (refine' t_Compare ?_ ?hh; (case hh => with_unfolding_all rfl)); refine r_CallN ?_; (refine' r_glob ?ee ?nn ?vv ?_; (case ee => assumption); (case nn => walk_at "has"); (case vv => walk_at "has")); (refine' r_cw_builtin ?_ ?hh ?gg; (case hh => with_unfolding_all rfl); (case gg => with_unfolding_all rfl)); (refine' r_args ?_ ?hh; (case hh => with_unfolding_all rfl)); (refine' r_loc ?ee ?nn ?vv ?_; (case ee => assumption); (case nn => walk_at "has"); (case vv => walk_at "has")); refine r_args_nil ?_; (refine' c_len_str ?ss (fun _ => ?_); (case ss => walk_at "side")); refine r_CallN ?_; (refine' r_glob ?ee ?nn ?vv ?_; (case ee => assumption); (case nn => walk_at "has"); (case vv => walk_at "has")); (refine' r_cw_builtin ?_ ?hh ?gg; (case hh => with_unfolding_all rfl); (case gg => with_unfolding_all rfl)); (refine' r_args ?_ ?hh; (case hh => with_unfolding_all rfl)); (refine' r_loc ?ee ?nn ?vv ?_; (case ee => assumption); (case nn => walk_at "has"); (case vv => walk_at "has")); refine r_args_nil ?_; (refine' c_len_str ?ss (fun _ => ?_); (case ss => walk_at "side")); refine i_lt ?_; refine t_bool ?_)
        refine r_if (fun h => ?_) (fun h => ?_)
        · simp only [decide_eq_true_eq] at h
          refine s_cons ?_
          refine s_swap hE (by walk_at "has") (by walk_at "has") (by decide +kernel) rfl (by walk_at "has") (by walk_at "has") ?_
          with_reducible ((refine' r_loc ?ee ?nn ?vv ?_; (case ee => assumption); (case nn => walk_at "has"); (case vv => walk_at "has")); (refine' r_loc ?ee ?nn ?vv ?_; (case ee => assumption); (case nn => walk_at "has"); (case vv => walk_at "has")))
          refine r_SwK hh ?_
          with_reducible ((refine' r_store ?ee ?nn ?vv ?_; (case ee => assumption); (case nn => walk_at "has"); (case vv => walk_at "put")); (refine' r_store ?ee ?nn ?vv ?_; (case ee => assumption); (case nn => walk_at "has"); (case vv => walk_at "put")); refine n_next ?_; refine s_nil ?_)
          exact ck_next ⟨y, x, _, _, Or.inr ⟨rfl, rfl⟩, by omega, rfl, rfl⟩ (Keeps.rfl' _)
        · simp only [decide_eq_false_iff_not] at h
          with_reducible (refine s_nil ?_)
          exact ck_next ⟨x, y, _, _, Or.inl ⟨rfl, rfl⟩, by omega, rfl, rfl⟩ (Keeps.rfl' _)
      · rintro fr nw ⟨x', y', t', u', hxy, hle, rfl, rfl⟩
        rcases hxy with ⟨rfl, rfl⟩ | ⟨rfl, rfl⟩
        · exact lev_dp ha hb hla hlb hx hle hE ok' k
        · exact lev_dp hb ha hlb hla hy hle hE ok' (by rw [dist_symm]; exact k)

/-- [: post or None], post the length of an end, below nought -/
theorem orNone {L : Addr} {b : Shared} {fr : Frm} {nw : Led} {env : Env} {x q : List Nat} {t tp : Tok} {p2 : Pos} {k : Nat} {value slice : Expr} (hx : x.length + q.length < 2 ^ 20) (h : ∀ t, St w L b fr nw (Q (.str (T x) t))) 
    (hs : ∀ a, subscripted slice false (.str (T (x ++ q)) t) (.ref a) = operate [.ref a, .str (T (x ++ q)) t] (getItem (.str (T (x ++ q)) t) (.ref a)) := by intro _; with_unfolding_all rfl) :
    St w L b fr nw (fun s₂ => if (-(q.length : Int) != 0) = true then SlK .none (.int (-(q.length : Int)) tp) (fun i => wpAny (model prog w) A (subscriptTail value slice (.str (T (x ++ q)) t) i) Q E) s₂ else wpAny (model prog w) A (eval (.Constant .none k p2) env) (fun u => SlK .none u (fun i => wpAny (model prog w) A (subscriptTail value slice (.str (T (x ++ q)) t) i) Q E)) E s₂) := by
  refine r_if (fun hq => ?_) (fun hq => ?_)
  · have hq2 : 0 < q.length := List.length_pos_iff.mpr (by simpa using hq)
    refine r_SlK (fun a => x_sl_ns (by rw [List.length_append]; exact hx) (fun t => ?_) (hs a))
    rw [pySl_neg x q hq2]
    exact h t
  · have hq2 : q = [] := by simpa using hq
    subst hq2
    refine r_none (r_SlK (fun a => x_sl_nn (by rw [List.length_append]; exact hx) (fun t => ?_) (hs a)))
    rw [pySl_all, List.append_nil]
    exact h t

theorem lev_tail1 {env : Env} {p a' b' : List Nat} {m : Int} {t u v t' : Tok} (ha : ∀ c ∈ a', c < 128) (hb : ∀ c ∈ b', c < 128) (hla : p.length + a'.length ≤ 20) (hlb : p.length + b'.length ≤ 20)
    (hE : EnvOk env nsL) (ok' : Ok A 2) (k : ∀ r t s', (dist a' b' ≤ m → r = dist a' b') → (m < dist a' b' → m < r) → Keeps s s' → Q (.int r t) s') :
    St w env.locals s (frL (some (.str (T (p ++ a')) t)) (some (.str (T (p ++ b')) u)) (some (.int m v)) (some (.int (p.length : Nat) t')) none none none none none none none none none none) [] (wpAny (model prog w) A (execs ((bodyOf 28).drop 3) env) (fun fl s' => Q (match fl with | .ret v => v | _ => .none) s') FF) := by
  with_unfolding_all show St _ _ _ _ _ (wpAny _ _ (execs (_ :: _) _) _ _)
  have hh := ok'.handled
  with_reducible (refine s_cons ?_; (refine' s_Assign ?_ ?hh; (case hh => with_unfolding_all rfl)); refine r_Subscript ?_; (refine' r_loc ?ee ?nn ?vv ?_; (case ee => assumption); (case nn => walk_at "has"); (case vv => walk_at "has")); refine r_Slice ?_; refine r_part ?_; (refine' r_loc ?ee ?nn ?vv ?_; (case ee => assumption); (case nn => walk_at "has"); (case vv => walk_at "has")); refine r_part0 ?_; refine r_SlK (fun _ => ?_); (refine' x_sl_sn ?ss (fun _ => ?_) ?hh; (case ss => walk_at "side"); (case hh => with_unfolding_all rfl)); (refine' r_store ?ee ?nn ?vv ?_; (case ee => assumption); (case nn => walk_at "has"); (case vv => walk_at "put")); refine n_next ?_; refine s_cons ?_; (refine' s_Assign ?_ ?hh; (case hh => with_unfolding_all rfl)); refine r_Subscript ?_; (refine' r_loc ?ee ?nn ?vv ?_; (case ee => assumption); (case nn => walk_at "has"); (case vv => walk_at "has")); refine r_Slice ?_; refine r_part ?_; (refine' r_loc ?ee ?nn ?vv ?_; (case ee => assumption); (case nn => walk_at "has"); (case vv => walk_at "has")); refine r_part0 ?_; refine r_SlK (fun _ => ?_); (refine' x_sl_sn ?ss (fun _ => ?_) ?hh; (case ss => walk_at "side"); (case hh => with_unfolding_all rfl)); (refine' r_store ?ee ?nn ?vv ?_; (case ee => assumption); (case nn => walk_at "has"); (case vv => walk_at "put")); refine n_next ?_; refine s_cons ?_; (refine' s_Assign ?_ ?hh; (case hh => with_unfolding_all rfl)); refine r_int (fun _ => ?_); (refine' r_store ?ee ?nn ?vv ?_; (case ee => assumption); (case nn => walk_at "has"); (case vv => walk_at "put")); refine n_next ?_; refine s_cons ?_)
  rw [pySl_from, List.drop_left]
  skip
  rw [pySl_from, List.drop_left]
  skip
  rename_i _ ta _ tb tp
  have sl : ∀ (l q : List Nat), pySl (l ++ q) none (if q = [] then none else some (-(q.length : Int))) = l := by
    intro l q
    by_cases h : q = []
    · subst h; simp [pySl_all]
    · rw [if_neg h]; exact pySl_neg l q (List.length_pos_iff.mpr h)
  refine n_cut (fun fr nw => ∃ q x y t2, a' = x ++ q ∧ b' = y ++ q ∧ fr = frL (some (.str (T a') ta)) (some (.str (T b') tb)) (some (.int m v)) (some (.int (p.length : Nat) t')) (some (.int (-(q.length : Int)) t2)) none none none none none none none none none ∧ nw = []) ?_ ?_
  · refine s_While (fun n fr nw => ∃ q x y t2, a' = x ++ q ∧ b' = y ++ q ∧ fr = frL (some (.str (T a') ta)) (some (.str (T b') tb)) (some (.int m v)) (some (.int (p.length : Nat) t')) (some (.int (-(q.length : Int)) t2)) none none none none none none none none none ∧ nw = [] ∧ n = x.length) a'.length ⟨[], a', b', _, by simp, by simp, rfl, rfl, rfl⟩ ?_
    rintro n fr nw ⟨q, x, y, t2, rfl, rfl, rfl, rfl, rfl⟩
    simp only [List.length_append] at hla hlb
    -- a[:post or None]
    with_reducible (refine t_BoolOp ?_; refine t_And ?_; (refine' t_val ?_ ?hh; (case hh => with_unfolding_all rfl)); refine r_Subscript ?_; (refine' r_loc ?ee ?nn ?vv ?_; (case ee => assumption); (case nn => walk_at "has"); (case vv => walk_at "has")); refine r_Slice ?_; refine r_part0 ?_; refine r_part ?_; refine r_Or ?_; (refine' r_loc ?ee ?nn ?vv ?_; (case ee => assumption); (case nn => walk_at "has"); (case vv => walk_at "has")); refine t_int ?_)
    refine orNone (x := x) (q := q) (by walk_at "side") (fun _ => ?_)
    with_reducible ((refine' t_str ?ss ?_; (case ss => walk_at "slen")))
    refine r_if (fun h => ?_) (fun h => ?_)
    · with_reducible (refine t_And ?_; (refine' t_val ?_ ?hh; (case hh => with_unfolding_all rfl)); refine r_Subscript ?_; (refine' r_loc ?ee ?nn ?vv ?_; (case ee => assumption); (case nn => walk_at "has"); (case vv => walk_at "has")); refine r_Slice ?_; refine r_part0 ?_; refine r_part ?_; refine r_Or ?_; (refine' r_loc ?ee ?nn ?vv ?_; (case ee => assumption); (case nn => walk_at "has"); (case vv => walk_at "has")); refine t_int ?_)
      refine orNone (x := y) (q := q) (by walk_at "side") (fun _ => ?_)
      with_reducible ((refine' t_str ?ss ?_; (case ss => walk_at "slen")))
      refine r_if (fun h2 => ?_) (fun h2 => ?_)
      · simp only [decide_eq_true_eq, T_len] at h h2
        obtain ⟨x2, c, rfl⟩ : ∃ x2 c, x = x2 ++ [c] := ⟨x.dropLast, x.getLast (by intro e; simp [e] at h), (List.dropLast_concat_getLast _).symm⟩
        obtain ⟨y2, d, rfl⟩ : ∃ y2 d, y = y2 ++ [d] := ⟨y.dropLast, y.getLast (by intro e; simp [e] at h2), (List.dropLast_concat_getLast _).symm⟩
        simp only [List.length_append, List.length_singleton] at hla hlb
        with_reducible (refine t_And ?_; (refine' t_Compare ?_ ?hh; (case hh => with_unfolding_all rfl)); refine r_Subscript ?_; (refine' r_loc ?ee ?nn ?vv ?_; (case ee => assumption); (case nn => walk_at "has"); (case vv => walk_at "has")); refine r_BinOp ?_; (refine' r_loc ?ee ?nn ?vv ?_; (case ee => assumption); (case nn => walk_at "has"); (case vv => walk_at "has")); refine r_int (fun _ => ?_); refine i_sub (fun _ => ?_))
        refine x_str_item (j := x2.length) (c := c) (by walk_at "side") (by rw [if_pos (by omega)]; simp only [List.length_append, List.length_singleton]; omega) (by simp) (fun _ => ?_)
        with_reducible (refine r_Subscript ?_; (refine' r_loc ?ee ?nn ?vv ?_; (case ee => assumption); (case nn => walk_at "has"); (case vv => walk_at "has")); refine r_BinOp ?_; (refine' r_loc ?ee ?nn ?vv ?_; (case ee => assumption); (case nn => walk_at "has"); (case vv => walk_at "has")); refine r_int (fun _ => ?_); refine i_sub (fun _ => ?_))
        refine x_str_item (j := y2.length) (c := d) (by walk_at "side") (by rw [if_pos (by omega)]; simp only [List.length_append, List.length_singleton]; omega) (by simp) (fun _ => ?_)
        with_reducible (refine i_seq ?_; refine t_bool ?_)
        refine r_if (fun h3 => ?_) (fun h3 => ?_)
        · simp only [decide_eq_true_eq, T_inj, List.cons.injEq, and_true] at h3
          subst h3
          with_reducible (refine t_And_nil ?_)
          refine r_if (fun _ => ?_) (fun h4 => nomatch h4)
          with_reducible (refine s_cons ?_; refine s_Aug ?_; (refine' r_ldn ?ee ?nn ?vv ?_; (case ee => assumption); (case nn => walk_at "has"); (case vv => walk_at "has")); refine r_int (fun _ => ?_); refine i_isub (fun _ => ?_); (refine' r_store ?ee ?nn ?vv ?_; (case ee => assumption); (case nn => walk_at "has"); (case vv => walk_at "put")); refine n_next ?_; refine s_nil ?_)
          have e : (-((c :: q).length : Int)) = -(q.length : Int) - 1 := by simp; omega
          exact wk_next x2.length ⟨c :: q, x2, y2, _, by simp, by simp, by rw [e], rfl, rfl⟩ (by simp)
        · refine r_if (fun h4 => nomatch h4) (fun _ => ?_)
          with_reducible (refine s_nil ?_)
          exact ck_next ⟨q, _, _, _, rfl, rfl, rfl, rfl⟩ (Keeps.rfl' _)
      · refine r_if (fun h4 => nomatch h4) (fun _ => ?_)
        with_reducible (refine s_nil ?_)
        exact ck_next ⟨q, _, _, _, rfl, rfl, rfl, rfl⟩ (Keeps.rfl' _)
    · refine r_if (fun h4 => nomatch h4) (fun _ => ?_)
      with_reducible (refine s_nil ?_)
      exact ck_next ⟨q, _, _, _, rfl, rfl, rfl, rfl⟩ (Keeps.rfl' _)
  · rintro fr nw ⟨q, x, y, t2, rfl, rfl, rfl, rfl⟩
    rw [dist_suf] at k
    simp only [List.length_append] at hla hlb
    with_reducible (refine s_cons ?_; (refine' s_Assign ?_ ?hh; (case hh => with_unfolding_all rfl)); refine r_Subscript ?_; (refine' r_loc ?ee ?nn ?vv ?_; (case ee => assumption); (case nn => walk_at "has"); (case vv => walk_at "has")); refine r_Slice ?_; refine r_part0 ?_; refine r_part ?_; refine r_Or ?_; (refine' r_loc ?ee ?nn ?vv ?_; (case ee => assumption); (case nn => walk_at "has"); (case vv => walk_at "has")); refine t_int ?_)
    refine orNone (x := x) (q := q) (by walk_at "side") (fun _ => ?_)
    with_reducible ((refine' r_store ?ee ?nn ?vv ?_; (case ee => assumption); (case nn => walk_at "has"); (case vv => walk_at "put")); refine n_next ?_; refine s_cons ?_; (refine' s_Assign ?_ ?hh; (case hh => with_unfolding_all rfl)); refine r_Subscript ?_; (refine' r_loc ?ee ?nn ?vv ?_; (case ee => assumption); (case nn => walk_at "has"); (case vv => walk_at "has")); refine r_Slice ?_; refine r_part0 ?_; refine r_part ?_; refine r_Or ?_; (refine' r_loc ?ee ?nn ?vv ?_; (case ee => assumption); (case nn => walk_at "has"); (case vv => walk_at "has")); refine t_int ?_)
    refine orNone (x := y) (q := q) (by walk_at "side") (fun _ => ?_)
    with_reducible ((refine' r_store ?ee ?nn ?vv ?_; (case ee => assumption); (case nn => walk_at "has"); (case vv => walk_at "put")); refine n_next ?_)
    exact lev_mid (fun c hc => ha c (List.mem_append_left _ hc)) (fun c hc => hb c (List.mem_append_left _ hc)) (by omega) (by omega) hE ok' k
end

-- D2
section
variable {prog : Program} {w : World} {A : Around} {E : Value → Shared → Prop} {s : Shared} {Q : Value → Shared → Prop}

theorem lev_spec {a b : List Nat} {m : Int} {t u v : Tok} (ha : ∀ c ∈ a, c < 128) (hb : ∀ c ∈ b, c < 128) (hla : a.length ≤ 20) (hlb : b.length ≤ 20) (ok : Ok A 3) (g : Gd w s.heap)
    (k : ∀ r t s', (dist a b ≤ m → r = dist a b) → (m < dist a b → m < r) → Keeps s s' → Q (.int r t) s') : wpAny (model prog w) A (call (.ref 28) [.str (T a) t, .str (T b) u, .int m v]) Q E s := by
  refine fn_enter [("a", some (.str (T a) t)), ("b", some (.str (T b) u)), ("max_cost", some (.int m v)), ("pre", none), ("post", none), ("row", none), ("result", none), ("bindex", none), ("bchar", none), ("distance", none), ("minimum", none), ("index", none), ("substitute", none), ("insert_delete", none)] g (by have := ok.depth; omega) (by with_unfolding_all rfl) rfl rfl (by kernel_rfl) (by with_unfolding_all rfl) (by dsimp only) (by kernel_rfl) (by kernel_rfl) (by kernel_rfl) (by walk_at "nd") (by walk_at "nd") (by kernel_rfl) ?_
  intro env hE
  have ok' := ok.deeper env
  with_reducible (refine s_cons ?_; refine s_If ?_; (refine' t_Compare ?_ ?hh; (case hh => with_unfolding_all rfl)); (refine' r_loc ?ee ?nn ?vv ?_; (case ee => assumption); (case nn => walk_at "has"); (case vv => walk_at "has")); (refine' r_loc ?ee ?nn ?vv ?_; (case ee => assumption); (case nn => walk_at "has"); (case vv => walk_at "has")); refine i_seq ?_; refine t_bool ?_)
  refine r_if (fun h => ?_) (fun h => ?_)
  · with_reducible (refine s_cons ?_; refine s_Return ?_; refine r_int (fun _ => ?_); refine n_ret ?_; refine n_ret ?_)
    simp only [decide_eq_true_eq, T_inj] at h
    subst h
    exact fun s' h' => k _ _ _ (by rw [dist_self]; intro _; rfl) (by rw [dist_self]; exact id) h'.toKeeps
  · clear h
    with_reducible (refine s_nil ?_; refine n_next ?_; refine s_cons ?_; (refine' s_Assign ?_ ?hh; (case hh => with_unfolding_all rfl)); refine r_int (fun _ => ?_); (refine' r_store ?ee ?nn ?vv ?_; (case ee => assumption); (case nn => walk_at "has"); (case vv => walk_at "put")); refine n_next ?_; refine s_cons ?_)
    -- the common beginning
    refine n_cut (fun fr nw => ∃ p a' b' t', fr = frL (some (.str (T a) t)) (some (.str (T b) u)) (some (.int m v)) (some (.int (p.length : Nat) t')) none none none none none none none none none none ∧ nw = [] ∧ a = p ++ a' ∧ b = p ++ b') ?_ ?_
    · refine s_While (fun n fr nw => ∃ p a' b' t', fr = frL (some (.str (T a) t)) (some (.str (T b) u)) (some (.int m v)) (some (.int (p.length : Nat) t')) none none none none none none none none none none ∧ nw = [] ∧ a = p ++ a' ∧ b = p ++ b' ∧ n = a'.length) a.length ⟨[], a, b, _, rfl, rfl, rfl, rfl, rfl⟩ ?_
      rintro n fr nw ⟨p, a', b', t', rfl, rfl, rfl, rfl, rfl⟩
      simp only [List.length_append] at hla hlb
      with_reducible (refine t_BoolOp ?_; refine t_And ?_; (refine' t_val ?_ ?hh; (case hh => with_unfolding_all rfl)); refine r_Subscript ?_; (refine' r_loc ?ee ?nn ?vv ?_; (case ee => assumption); (case nn => walk_at "has"); (case vv => walk_at "has")); refine r_Slice ?_; refine r_part ?_; (refine' r_loc ?ee ?nn ?vv ?_; (case ee => assumption); (case nn => walk_at "has"); (case vv => walk_at "has")); refine r_part0 ?_; refine r_SlK (fun _ => ?_); (refine' x_sl_sn ?ss (fun _ => ?_) ?hh; (case ss => walk_at "side"); (case hh => with_unfolding_all rfl)))
      rw [pySl_from, List.drop_left]
      with_reducible ((refine' t_str ?ss ?_; (case ss => walk_at "slen")))
      refine r_if (fun h => ?_) (fun h => ?_)
      · with_reducible (refine t_And ?_; (refine' t_val ?_ ?hh; (case hh => with_unfolding_all rfl)); refine r_Subscript ?_; (refine' r_loc ?ee ?nn ?vv ?_; (case ee => assumption); (case nn => walk_at "has"); (case vv => walk_at "has")); refine r_Slice ?_; refine r_part ?_; (refine' r_loc ?ee ?nn ?vv ?_; (case ee => assumption); (case nn => walk_at "has"); (case vv => walk_at "has")); refine r_part0 ?_; refine r_SlK (fun _ => ?_); (refine' x_sl_sn ?ss (fun _ => ?_) ?hh; (case ss => walk_at "side"); (case hh => with_unfolding_all rfl)))
        rw [pySl_from, List.drop_left]
        with_reducible ((refine' t_str ?ss ?_; (case ss => walk_at "slen")))
        refine r_if (fun h2 => ?_) (fun h2 => ?_)
        · simp only [decide_eq_true_eq, T_len] at h h2
          obtain ⟨c, a2, rfl⟩ := List.exists_cons_of_length_pos (by omega : 0 < a'.length)
          obtain ⟨d, b2, rfl⟩ := List.exists_cons_of_length_pos (by omega : 0 < b'.length)
          with_reducible (refine t_And ?_; (refine' t_Compare ?_ ?hh; (case hh => with_unfolding_all rfl)); refine r_Subscript ?_; (refine' r_loc ?ee ?nn ?vv ?_; (case ee => assumption); (case nn => walk_at "has"); (case vv => walk_at "has")); (refine' r_loc ?ee ?nn ?vv ?_; (case ee => assumption); (case nn => walk_at "has"); (case vv => walk_at "has")))
          refine x_str_item (j := p.length) (c := c) (by walk_at "side") (by rw [if_neg (by omega)]) (by simp) (fun _ => ?_)
          with_reducible (refine r_Subscript ?_; (refine' r_loc ?ee ?nn ?vv ?_; (case ee => assumption); (case nn => walk_at "has"); (case vv => walk_at "has")); (refine' r_loc ?ee ?nn ?vv ?_; (case ee => assumption); (case nn => walk_at "has"); (case vv => walk_at "has")))
          refine x_str_item (j := p.length) (c := d) (by walk_at "side") (by rw [if_neg (by omega)]) (by simp) (fun _ => ?_)
          with_reducible (refine i_seq ?_; refine t_bool ?_)
          refine r_if (fun h3 => ?_) (fun h3 => ?_)
          · simp only [decide_eq_true_eq, T_inj, List.cons.injEq, and_true] at h3
            subst h3
            with_reducible (refine t_And_nil ?_)
            refine r_if (fun _ => ?_) (fun h4 => nomatch h4)
            with_reducible (refine s_cons ?_; refine s_Aug ?_; (refine' r_ldn ?ee ?nn ?vv ?_; (case ee => assumption); (case nn => walk_at "has"); (case vv => walk_at "has")); refine r_int (fun _ => ?_); refine i_iadd (fun _ => ?_); (refine' r_store ?ee ?nn ?vv ?_; (case ee => assumption); (case nn => walk_at "has"); (case vv => walk_at "put")); refine n_next ?_; refine s_nil ?_)
            have e : ((p ++ [c]).length : Int) = p.length + 1 := by simp
            exact wk_next a2.length ⟨p ++ [c], a2, b2, _, by rw [e], rfl, by simp, by simp, rfl⟩ (by simp)
          · refine r_if (fun h4 => nomatch h4) (fun _ => ?_)
            with_reducible (refine s_nil ?_)
            exact ck_next ⟨p, _, _, _, rfl, rfl, rfl, rfl⟩ (Keeps.rfl' _)
        · refine r_if (fun h4 => nomatch h4) (fun _ => ?_)
          with_reducible (refine s_nil ?_)
          exact ck_next ⟨p, _, _, _, rfl, rfl, rfl, rfl⟩ (Keeps.rfl' _)
      · refine r_if (fun h4 => nomatch h4) (fun _ => ?_)
        with_reducible (refine s_nil ?_)
        exact ck_next ⟨p, _, _, _, rfl, rfl, rfl, rfl⟩ (Keeps.rfl' _)
    -- the common end
    · rintro fr nw ⟨p, a', b', t', rfl, rfl, rfl, rfl⟩
      rw [dist_pre] at k
      simp only [List.length_append] at hla hlb
      exact lev_tail1 (fun c hc => ha c (List.mem_append_right _ hc)) (fun c hc => hb c (List.mem_append_right _ hc)) (by omega) (by omega) hE ok' k
theorem lev_call {L : Addr} {b' : Shared} {fr : Frm} {nw : Led} {a b : List Nat} {m : Int} {t u v : Tok} (ha : ∀ c ∈ a, c < 128) (hb : ∀ c ∈ b, c < 128) (hla : a.length ≤ 20) (hlb : b.length ≤ 20) (ok : Ok A 3)
    (h : ∀ r t, (dist a b ≤ m → r = dist a b) → (m < dist a b → m < r) → St w L b' fr nw (Q (.int r t))) : St w L b' fr nw (wpAny (model prog w) A (call (.ref 28) [.str (T a) t, .str (T b) u, .int m v]) Q E) := fun s hs => lev_spec ha hb hla hlb ok hs.gds fun r t s' h1 h2 k => h r t h1 h2 s' (hs.keeps k)
end

-- E1
section
variable {prog : Program} {w : World} {A : Around} {E : Value → Shared → Prop} {Q : Value → Shared → Prop} {L : Addr} {b : Shared} {fr : Frm} {nw : Led}

abbrev frD (vh vs vp vn vpp vpar : Option Value) : Frm := [("heap", vh), ("startpos", vs), ("pos", vp), ("newitem", vn), ("parentpos", vpp), ("parent", vpar)]

/-- what _siftdown makes, from place nought -/
def sdn (hs : List HI) (p : Nat) (hp h0 : HI) : List HI := if 0 < p ∧ plt hp.2 h0.2 = true then (hs.set p h0).set 0 hp else hs.set p hp

theorem siftdown_call {H : Addr} {hs : List HI} {p : Nat} {hp h0 : HI} {t u : Tok} (hH : Has nw H (.list (hs.map vref))) (hpp : hs[p]? = some hp) (h00 : hs[0]? = some h0) (hp2 : p ≤ 2) (hl : hs.length ≤ 3) (s1 : SeesP w L b fr nw hp) (s2 : SeesP w L b fr nw h0) (ok : Ok A 1)
    (k : ∀ nw', Put nw H (.list ((sdn hs p hp h0).map vref)) nw' → St w L b fr nw' (Q .none)) : St w L b fr nw (wpAny (model prog w) A (call (.ref 56) [.ref H, .int 0 t, .int (p : Int) u]) Q E) := by
  refine fn_enter1 (frD (some (.ref H)) (some (.int 0 t)) (some (.int (p : Int) u)) none none none) (P := fun v d => v = .none ∧ d = .list ((sdn hs p hp h0).map vref)) hH (by have := ok.depth; omega) (by with_unfolding_all rfl) rfl rfl (by kernel_rfl) (by with_unfolding_all rfl) (by dsimp only) (by kernel_rfl) (by kernel_rfl) (by kernel_rfl) (by walk_at "nd") (by walk_at "nd") (by kernel_rfl) ?_ ?_
  · intro env b' hE hT
    have ok' := ok.deeper env
    have hu : (A.deeper env).units < 9000 := by have := ok'.units; omega
    have v1 : (hs.map vref)[p]? = some (vref hp) := by simp [hpp]
    have v0 : (hs.map vref)[0]? = some (vref h0) := by simp [h00]
    obtain ⟨t1, t2, q1⟩ := s1
    obtain ⟨t3, t4, q2⟩ := s2
    have b1 : Tp b' hp := ⟨t1, t2, hT _ _ q1⟩
    have b2 : Tp b' h0 := ⟨t3, t4, hT _ _ q2⟩
    with_reducible (refine s_cons ?_; (refine' s_Assign ?_ ?hh; (case hh => with_unfolding_all rfl)); refine r_Subscript ?_; (refine' r_loc ?ee ?nn ?vv ?_; (case ee => assumption); (case nn => walk_at "has"); (case vv => walk_at "has")); (refine' r_loc ?ee ?nn ?vv ?_; (case ee => assumption); (case nn => walk_at "has"); (case vv => walk_at "has")))
    refine x_list_item (v := vref hp) (seesL_nw (by walk_at "has")) (by omega) (by omega) (by rw [Int.toNat_natCast]; exact v1) ?_
    with_reducible ((refine' r_store ?ee ?nn ?vv ?_; (case ee => assumption); (case nn => walk_at "has"); (case vv => walk_at "put")); refine n_next ?_; refine s_cons ?_)
    -- behind the loop: a place, the list with it free
    refine n_cut (fun fr nw => ∃ q tq p1 p2 vs, fr = frD (some (.ref H)) (some (.int 0 t)) (some (.int (q : Nat) tq)) (some (vref hp)) p1 p2 ∧ nw = [(H, .list vs)] ∧ q < vs.length ∧ vs.length ≤ 3 ∧ vs.set q (vref hp) = (sdn hs p hp h0).map vref) ?_ ?_
    · refine s_While (fun n fr nw => (n = 1 ∧ fr = frD (some (.ref H)) (some (.int 0 t)) (some (.int (p : Nat) u)) (some (vref hp)) none none ∧ nw = [(H, .list (hs.map vref))]) ∨ (n = 0 ∧ ∃ tq p1 p2 , fr = frD (some (.ref H)) (some (.int 0 t)) (some (.int 0 tq)) (some (vref hp)) p1 p2 ∧ nw = [(H, .list ((hs.map vref).set p (vref h0)))] ∧ 0 < p ∧ plt hp.2 h0.2 = true)) 1 (Or.inl ⟨rfl, rfl, rfl⟩) ?_
      rintro n fr nw (⟨rfl, rfl, rfl⟩ | ⟨rfl, tq, p1, p2, rfl, rfl, hp0, hlt⟩)
      · with_reducible ((refine' t_Compare ?_ ?hh; (case hh => with_unfolding_all rfl)); (refine' r_loc ?ee ?nn ?vv ?_; (case ee => assumption); (case nn => walk_at "has"); (case vv => walk_at "has")); (refine' r_loc ?ee ?nn ?vv ?_; (case ee => assumption); (case nn => walk_at "has"); (case vv => walk_at "has")); refine i_gt ?_; refine t_bool ?_)
        refine r_if (fun h => ?_) (fun h => ?_)
        · simp only [decide_eq_true_eq] at h
          with_reducible (refine s_cons ?_; (refine' s_Assign ?_ ?hh; (case hh => with_unfolding_all rfl)); refine r_BinOp ?_; refine r_BinOp ?_; (refine' r_loc ?ee ?nn ?vv ?_; (case ee => assumption); (case nn => walk_at "has"); (case vv => walk_at "has")); refine r_int (fun _ => ?_); refine i_sub (fun _ => ?_); refine r_int (fun _ => ?_); (refine' i_shr ?ss (fun _ => ?_); (case ss => walk_at "side")); (refine' r_store ?ee ?nn ?vv ?_; (case ee => assumption); (case nn => walk_at "has"); (case vv => walk_at "put")); refine n_next ?_; refine s_cons ?_; (refine' s_Assign ?_ ?hh; (case hh => with_unfolding_all rfl)); refine r_Subscript ?_; (refine' r_loc ?ee ?nn ?vv ?_; (case ee => assumption); (case nn => walk_at "has"); (case vv => walk_at "has")); (refine' r_loc ?ee ?nn ?vv ?_; (case ee => assumption); (case nn => walk_at "has"); (case vv => walk_at "has")))
          have e0 : ((p : Int) - 1).fdiv (2 ^ (1 : Int).toNat) = 0 := by
            have : p = 1 ∨ p = 2 := by omega
            rcases this with rfl | rfl <;> rfl
          rw [e0]
          skip
          refine x_list_item (v := vref h0) (seesL_nw (by walk_at "has")) (by omega) (by omega) v0 ?_
          with_reducible ((refine' r_store ?ee ?nn ?vv ?_; (case ee => assumption); (case nn => walk_at "has"); (case vv => walk_at "put")); refine n_next ?_; refine s_cons ?_; refine s_If ?_; (refine' t_Compare ?_ ?hh; (case hh => with_unfolding_all rfl)); (refine' r_loc ?ee ?nn ?vv ?_; (case ee => assumption); (case nn => walk_at "has"); (case vv => walk_at "has")); (refine' r_loc ?ee ?nn ?vv ?_; (case ee => assumption); (case nn => walk_at "has"); (case vv => walk_at "has")))
          refine i_tlt hu b1.sees b2.sees ?_
          with_reducible (refine t_bool ?_)
          refine r_if (fun h2 => ?_) (fun h2 => ?_)
          · with_reducible (refine s_cons ?_; (refine' s_AssignSub ?_ ?hh; (case hh => with_unfolding_all rfl)); (refine' r_loc ?ee ?nn ?vv ?_; (case ee => assumption); (case nn => walk_at "has"); (case vv => walk_at "has")); (refine' r_loc ?ee ?nn ?vv ?_; (case ee => assumption); (case nn => walk_at "has"); (case vv => walk_at "has")); (refine' r_loc ?ee ?nn ?vv ?_; (case ee => assumption); (case nn => walk_at "has"); (case vv => walk_at "has")))
            refine r_setItem (by walk_at "has") (by omega) (by have := (List.getElem?_eq_some_iff.mp v1).1; omega) (by rw [List.length_map]; omega) (by walk_at "put") ?_
            rw [Int.toNat_natCast]
            with_reducible (refine n_next ?_; refine s_cons ?_; (refine' s_Assign ?_ ?hh; (case hh => with_unfolding_all rfl)); (refine' r_loc ?ee ?nn ?vv ?_; (case ee => assumption); (case nn => walk_at "has"); (case vv => walk_at "has")); (refine' r_store ?ee ?nn ?vv ?_; (case ee => assumption); (case nn => walk_at "has"); (case vv => walk_at "put")); refine n_next ?_; refine s_cons ?_; refine s_Continue ?_; refine n_cont ?_; refine n_cont ?_)
            exact wk_cont 0 (Or.inr ⟨rfl, _, _, _, rfl, rfl, by omega, h2⟩) (by omega)
          · with_reducible (refine s_nil ?_; refine n_next ?_; refine s_cons ?_; refine s_Break ?_; refine n_brk ?_; refine wk_brk ?_)
            refine ck_next ⟨p, _, _, _, _, rfl, rfl, (List.getElem?_eq_some_iff.mp v1).1, by rw [List.length_map]; exact hl, ?_⟩ (Keeps.rfl' _)
            simp [sdn, h2]
        · simp only [decide_eq_false_iff_not] at h
          with_reducible (refine s_nil ?_)
          refine ck_next ⟨p, _, _, _, _, rfl, rfl, (List.getElem?_eq_some_iff.mp v1).1, by rw [List.length_map]; exact hl, ?_⟩ (Keeps.rfl' _)
          have : ¬ 0 < p := by omega
          simp [sdn, this]
      · with_reducible ((refine' t_Compare ?_ ?hh; (case hh => with_unfolding_all rfl)); (refine' r_loc ?ee ?nn ?vv ?_; (case ee => assumption); (case nn => walk_at "has"); (case vv => walk_at "has")); (refine' r_loc ?ee ?nn ?vv ?_; (case ee => assumption); (case nn => walk_at "has"); (case vv => walk_at "has")); refine i_gt ?_; refine t_bool ?_)
        refine r_if (fun h => absurd h (by decide)) (fun h => ?_)
        with_reducible (refine s_nil ?_)
        have hlen := (List.getElem?_eq_some_iff.mp v1).1
        refine ck_next ⟨0, _, _, _, _, rfl, rfl, by rw [List.length_set]; omega, by rw [List.length_set, List.length_map]; exact hl, ?_⟩ (Keeps.rfl' _)
        simp [sdn, hp0, hlt, List.map_set]
    · rintro fr nw ⟨q, tq, p1, p2, vs, rfl, rfl, hq, hl3, e⟩
      with_reducible (refine s_cons ?_; (refine' s_AssignSub ?_ ?hh; (case hh => with_unfolding_all rfl)); (refine' r_loc ?ee ?nn ?vv ?_; (case ee => assumption); (case nn => walk_at "has"); (case vv => walk_at "has")); (refine' r_loc ?ee ?nn ?vv ?_; (case ee => assumption); (case nn => walk_at "has"); (case vv => walk_at "has")); (refine' r_loc ?ee ?nn ?vv ?_; (case ee => assumption); (case nn => walk_at "has"); (case vv => walk_at "has")))
      refine r_setItem (by walk_at "has") (by omega) (by omega) (by omega) (by walk_at "put") ?_
      rw [Int.toNat_natCast, e]
      with_reducible (refine n_next ?_; refine s_nil ?_)
      exact rk_next ⟨rfl, rfl⟩
  · rintro v d' nw' ⟨rfl, rfl⟩ hput
    exact k nw' hput
end

-- E2
def RootMin (hs : List HI) : Prop := ∀ h0, hs[0]? = some h0 → ∀ h ∈ hs, plt h.2 h0.2 = false
theorem plt_false {p q : Int × Int} : plt p q = false ↔ (q.1 < p.1 ∨ (q.1 = p.1 ∧ q.2 ≤ p.2)) := by simp [plt]; omega
theorem plt_true {p q : Int × Int} : plt p q = true ↔ (p.1 < q.1 ∨ (p.1 = q.1 ∧ p.2 < q.2)) := by simp [plt]
theorem root2 {a c : HI} (h : plt c.2 a.2 = false) : RootMin [a, c] := by
  intro h0 e h hm
  simp at e; subst e
  simp only [List.mem_cons, List.not_mem_nil, or_false] at hm
  rcases hm with rfl | rfl
  · rw [plt_false]; omega
  · assumption
theorem root3 {a c d : HI} (h : plt c.2 a.2 = false) (h' : plt d.2 a.2 = false) : RootMin [a, c, d] := by
  intro h0 e h hm
  simp at e; subst e
  simp only [List.mem_cons, List.not_mem_nil, or_false] at hm
  rcases hm with rfl | rfl | rfl
  · rw [plt_false]; omega
  · assumption
  · assumption
theorem up_pure {hs : List HI} {h0 hc : HI} {c : Nat} (e0 : hs[0]? = some h0) (ec : hs[c]? = some hc) (h1 : 1 ≤ c) (hl : hs.length ≤ 3) (c1 : c = 1 → ∀ h2, hs[2]? = some h2 → plt hc.2 h2.2 = true) (c2 : c = 2 → ∀ h1, hs[1]? = some h1 → plt h1.2 hc.2 = false) :
    (sdn ((hs.set 0 hc).set c h0) c h0 hc).Perm hs ∧ RootMin (sdn ((hs.set 0 hc).set c h0) c h0 hc) := by
  match hs, hl with
  | [], _ => simp at e0
  | [a], _ => have : c ≠ 0 := by omega
              simp [this] at ec
  | [a, d], _ =>
    have : c = 1 := by have := (List.getElem?_eq_some_iff.mp ec).1; simp at this; omega
    subst this
    simp at e0 ec
    subst e0 ec
    unfold sdn
    by_cases h : plt a.2 d.2 = true
    · simp only [h, and_self, if_true, Nat.zero_lt_one]
      exact ⟨List.Perm.refl _, root2 (by rw [plt_true] at h; rw [plt_false]; omega)⟩
    · simp only [h, and_false, if_false]
      exact ⟨List.Perm.swap _ _ _, root2 (by simpa using h)⟩
  | [a, d, e], _ =>
    have : c = 1 ∨ c = 2 := by have := (List.getElem?_eq_some_iff.mp ec).1; simp at this; omega
    rcases this with rfl | rfl
    · simp at e0 ec
      subst e0 ec
      have q := c1 rfl e rfl
      unfold sdn
      by_cases h : plt a.2 d.2 = true
      · simp only [h, and_self, if_true, Nat.zero_lt_one]
        refine ⟨List.Perm.refl _, root3 ?_ ?_⟩ <;> (rw [plt_true] at *; rw [plt_false]; omega)
      · simp only [h, and_false, if_false]
        refine ⟨List.Perm.swap _ _ _, root3 (by simpa using h) ?_⟩
        rw [plt_true] at q; rw [plt_false]; omega
    · simp at e0 ec
      subst e0 ec
      have q := c2 rfl d rfl
      unfold sdn
      by_cases h : plt a.2 e.2 = true
      · simp only [h, and_self, if_true, Nat.zero_lt_two]
        refine ⟨List.Perm.refl _, root3 ?_ ?_⟩ <;> (rw [plt_true] at h; rw [plt_false] at *; omega)
      · simp only [h, and_false, if_false]
        refine ⟨?_, root3 q (by simpa using h)⟩
        show [e, d, a].Perm [a, d, e]
        exact ((List.Perm.swap d e [a]).trans ((List.Perm.cons d (List.Perm.swap a e [])).trans (List.Perm.swap a d [e])))
section
variable {prog : Program} {w : World} {A : Around} {E : Value → Shared → Prop} {Q : Value → Shared → Prop} {L : Addr} {b : Shared} {fr : Frm} {nw : Led}

abbrev frU (vh vp ve vs vn vc vr : Option Value) : Frm := [("heap", vh), ("pos", vp), ("endpos", ve), ("startpos", vs), ("newitem", vn), ("childpos", vc), ("rightpos", vr)]

theorem siftup_call {H : Addr} {hs : List HI} {t : Tok} (hH : Has nw H (.list (hs.map vref))) (h1 : 1 ≤ hs.length) (hl : hs.length ≤ 3) (sP : ∀ h ∈ hs, SeesP w L b fr nw h) (ok : Ok A 2)
    (k : ∀ hs' nw', hs'.Perm hs → RootMin hs' → Put nw H (.list (hs'.map vref)) nw' → St w L b fr nw' (Q .none)) : St w L b fr nw (wpAny (model prog w) A (call (.ref 63) [.ref H, .int 0 t]) Q E) := by
  refine fn_enter1 (frU (some (.ref H)) (some (.int 0 t)) none none none none none) (P := fun v d => v = .none ∧ ∃ hs', hs'.Perm hs ∧ RootMin hs' ∧ d = .list (hs'.map vref)) hH (by have := ok.depth; omega) (by with_unfolding_all rfl) rfl rfl (by kernel_rfl) (by with_unfolding_all rfl) (by dsimp only) (by kernel_rfl) (by kernel_rfl) (by kernel_rfl) (by walk_at "nd") (by walk_at "nd") (by kernel_rfl) ?_ ?_
  · intro env b' hE hT
    have ok' := ok.deeper env
    have hu : (A.deeper env).units < 9000 := by have := ok'.units; omega
    have bP : ∀ h ∈ hs, Tp b' h := fun h hh => by obtain ⟨t1, t2, q⟩ := sP h hh; exact ⟨t1, t2, hT _ _ q⟩
    obtain ⟨h0, e0⟩ : ∃ h0, hs[0]? = some h0 := ⟨hs[0], by simp [h1]⟩
    have v0 : (hs.map vref)[0]? = some (vref h0) := by simp [e0]
    have hln : (hs.map vref).length = hs.length := by simp
    with_reducible (refine s_cons ?_; (refine' s_Assign ?_ ?hh; (case hh => with_unfolding_all rfl)); refine r_CallN ?_; (refine' r_glob ?ee ?nn ?vv ?_; (case ee => assumption); (case nn => walk_at "has"); (case vv => walk_at "has")); (refine' r_cw_builtin ?_ ?hh ?gg; (case hh => with_unfolding_all rfl); (case gg => with_unfolding_all rfl)); (refine' r_args ?_ ?hh; (case hh => with_unfolding_all rfl)); (refine' r_loc ?ee ?nn ?vv ?_; (case ee => assumption); (case nn => walk_at "has"); (case vv => walk_at "has")); refine r_args_nil ?_; (refine' c_len_list ?ll ?ss (fun _ => ?_); (case ll => walk_at "sees"); (case ss => walk_at "side")); (refine' r_store ?ee ?nn ?vv ?_; (case ee => assumption); (case nn => walk_at "has"); (case vv => walk_at "put")); refine n_next ?_; refine s_cons ?_; (refine' s_Assign ?_ ?hh; (case hh => with_unfolding_all rfl)); (refine' r_loc ?ee ?nn ?vv ?_; (case ee => assumption); (case nn => walk_at "has"); (case vv => walk_at "has")); (refine' r_store ?ee ?nn ?vv ?_; (case ee => assumption); (case nn => walk_at "has"); (case vv => walk_at "put")); refine n_next ?_; refine s_cons ?_; (refine' s_Assign ?_ ?hh; (case hh => with_unfolding_all rfl)); refine r_Subscript ?_; (refine' r_loc ?ee ?nn ?vv ?_; (case ee => assumption); (case nn => walk_at "has"); (case vv => walk_at "has")); (refine' r_loc ?ee ?nn ?vv ?_; (case ee => assumption); (case nn => walk_at "has"); (case vv => walk_at "has")))
    refine x_list_item (v := vref h0) (seesL_nw (by walk_at "has")) (by omega) (by omega) v0 ?_
    with_reducible ((refine' r_store ?ee ?nn ?vv ?_; (case ee => assumption); (case nn => walk_at "has"); (case vv => walk_at "put")); refine n_next ?_; refine s_cons ?_; (refine' s_Assign ?_ ?hh; (case hh => with_unfolding_all rfl)); refine r_BinOp ?_; refine r_BinOp ?_; refine r_int (fun _ => ?_); (refine' r_loc ?ee ?nn ?vv ?_; (case ee => assumption); (case nn => walk_at "has"); (case vv => walk_at "has")); (refine' i_mul ?ss (fun _ => ?_); (case ss => walk_at "rng")); refine r_int (fun _ => ?_); refine i_add (fun _ => ?_); (refine' r_store ?ee ?nn ?vv ?_; (case ee => assumption); (case nn => walk_at "has"); (case vv => walk_at "put")); refine n_next ?_; refine s_cons ?_)
    rw [hln]
    refine n_cut (fun fr nw => ∃ q hs1 g0 vs tq te p1 p2 p3, fr = frU (some (.ref H)) (some (.int (q : Nat) tq)) (some (.int (hs.length : Nat) te)) (some (.int 0 t)) (some (vref h0)) (some (.int p1 p2)) p3 ∧ nw = [(H, .list vs)] ∧ q ≤ 2 ∧ q < vs.length ∧ vs.length ≤ 3 ∧
      vs.set q (vref h0) = hs1.map vref ∧ hs1[q]? = some h0 ∧ hs1[0]? = some g0 ∧ Tp b' g0 ∧ (sdn hs1 q h0 g0).Perm hs ∧ RootMin (sdn hs1 q h0 g0)) ?_ ?_
    · refine s_While (fun n fr nw => (n = 1 ∧ ∃ te tc, fr = frU (some (.ref H)) (some (.int 0 t)) (some (.int (hs.length : Nat) te)) (some (.int 0 t)) (some (vref h0)) (some (.int (2 * 0 + 1) tc)) none ∧ nw = [(H, .list (hs.map vref))]) ∨
        (n = 0 ∧ ∃ c hc tq te tc p3, fr = frU (some (.ref H)) (some (.int (c : Nat) tq)) (some (.int (hs.length : Nat) te)) (some (.int 0 t)) (some (vref h0)) (some (.int (2 * (c : Nat) + 1) tc)) p3 ∧ nw = [(H, .list ((hs.map vref).set 0 (vref hc)))] ∧
          1 ≤ c ∧ hs[c]? = some hc ∧ (c = 1 → ∀ h2, hs[2]? = some h2 → plt hc.2 h2.2 = true) ∧ (c = 2 → ∀ h1, hs[1]? = some h1 → plt h1.2 hc.2 = false))) 1 (Or.inl ⟨rfl, _, _, rfl, rfl⟩) ?_
      rintro n fr nw (⟨rfl, te, tc, rfl, rfl⟩ | ⟨rfl, c, hc, tq, te, tc, p3, rfl, rfl, hc1, ec, c1, c2⟩)
      · with_reducible ((refine' t_Compare ?_ ?hh; (case hh => with_unfolding_all rfl)); (refine' r_loc ?ee ?nn ?vv ?_; (case ee => assumption); (case nn => walk_at "has"); (case vv => walk_at "has")); (refine' r_loc ?ee ?nn ?vv ?_; (case ee => assumption); (case nn => walk_at "has"); (case vv => walk_at "has")); refine i_lt ?_; refine t_bool ?_)
        refine r_if (fun h => ?_) (fun h => ?_)
        · simp only [decide_eq_true_eq] at h
          obtain ⟨g1, e1⟩ : ∃ g1, hs[1]? = some g1 := ⟨hs[1]'(by omega), by simp⟩
          have v1 : (hs.map vref)[1]? = some (vref g1) := by simp [e1]
          with_reducible (refine s_cons ?_; (refine' s_Assign ?_ ?hh; (case hh => with_unfolding_all rfl)); refine r_BinOp ?_; (refine' r_loc ?ee ?nn ?vv ?_; (case ee => assumption); (case nn => walk_at "has"); (case vv => walk_at "has")); refine r_int (fun _ => ?_); refine i_add (fun _ => ?_); (refine' r_store ?ee ?nn ?vv ?_; (case ee => assumption); (case nn => walk_at "has"); (case vv => walk_at "put")); refine n_next ?_; refine s_cons ?_)
          refine n_cut (fun fr nw => ∃ c hc td tr, fr = frU (some (.ref H)) (some (.int 0 t)) (some (.int (hs.length : Nat) te)) (some (.int 0 t)) (some (vref h0)) (some (.int (c : Nat) td)) (some (.int (2 * 0 + 1 + 1) tr)) ∧ nw = [(H, .list (hs.map vref))] ∧
            1 ≤ c ∧ hs[c]? = some hc ∧ (c = 1 → ∀ h2, hs[2]? = some h2 → plt hc.2 h2.2 = true) ∧ (c = 2 → ∀ h1, hs[1]? = some h1 → plt h1.2 hc.2 = false)) ?_ ?_
          · with_reducible (refine s_If ?_; refine t_BoolOp ?_; refine t_And ?_; (refine' t_Compare ?_ ?hh; (case hh => with_unfolding_all rfl)); (refine' r_loc ?ee ?nn ?vv ?_; (case ee => assumption); (case nn => walk_at "has"); (case vv => walk_at "has")); (refine' r_loc ?ee ?nn ?vv ?_; (case ee => assumption); (case nn => walk_at "has"); (case vv => walk_at "has")); refine i_lt ?_; refine t_bool ?_)
            refine r_if (fun h2 => ?_) (fun h2 => ?_)
            · simp only [decide_eq_true_eq] at h2
              obtain ⟨g2, e2⟩ : ∃ g2, hs[2]? = some g2 := ⟨hs[2]'(by omega), by simp⟩
              have v2 : (hs.map vref)[2]? = some (vref g2) := by simp [e2]
              with_reducible (refine t_And ?_; refine t_Not ?_; (refine' t_Compare ?_ ?hh; (case hh => with_unfolding_all rfl)); refine r_Subscript ?_; (refine' r_loc ?ee ?nn ?vv ?_; (case ee => assumption); (case nn => walk_at "has"); (case vv => walk_at "has")); (refine' r_loc ?ee ?nn ?vv ?_; (case ee => assumption); (case nn => walk_at "has"); (case vv => walk_at "has")))
              refine x_list_item (v := vref g1) (seesL_nw (by walk_at "has")) (by omega) (by omega) v1 ?_
              with_reducible (refine r_Subscript ?_; (refine' r_loc ?ee ?nn ?vv ?_; (case ee => assumption); (case nn => walk_at "has"); (case vv => walk_at "has")); (refine' r_loc ?ee ?nn ?vv ?_; (case ee => assumption); (case nn => walk_at "has"); (case vv => walk_at "has")))
              refine x_list_item (v := vref g2) (seesL_nw (by walk_at "has")) (by omega) (by omega) v2 ?_
              refine i_tlt hu (bP g1 (List.mem_of_getElem? e1)).sees (bP g2 (List.mem_of_getElem? e2)).sees ?_
              with_reducible (refine t_bool ?_)
              refine r_if (fun h3 => ?_) (fun h3 => ?_)
              · with_reducible (refine t_And_nil ?_)
                refine r_if (fun _ => ?_) (fun h4 => nomatch h4)
                with_reducible (refine s_cons ?_; (refine' s_Assign ?_ ?hh; (case hh => with_unfolding_all rfl)); (refine' r_loc ?ee ?nn ?vv ?_; (case ee => assumption); (case nn => walk_at "has"); (case vv => walk_at "has")); (refine' r_store ?ee ?nn ?vv ?_; (case ee => assumption); (case nn => walk_at "has"); (case vv => walk_at "put")); refine n_next ?_; refine s_nil ?_)
                refine ck_next ⟨2, g2, _, _, rfl, rfl, by omega, e2, fun h => by omega, fun _ q eq => ?_⟩ (Keeps.rfl' _)
                rw [e1] at eq; cases eq
                simpa using h3
              · refine r_if (fun h4 => nomatch h4) (fun _ => ?_)
                with_reducible (refine s_nil ?_)
                refine ck_next ⟨1, g1, _, _, rfl, rfl, by omega, e1, fun _ q eq => ?_, fun h => by omega⟩ (Keeps.rfl' _)
                rw [e2] at eq; cases eq
                simpa using h3
            · simp only [decide_eq_false_iff_not] at h2
              refine r_if (fun h4 => nomatch h4) (fun _ => ?_)
              with_reducible (refine s_nil ?_)
              refine ck_next ⟨1, g1, _, _, rfl, rfl, by omega, e1, fun _ q eq => ?_, fun h => by omega⟩ (Keeps.rfl' _)
              have := (List.getElem?_eq_some_iff.mp eq).1
              omega
          · rintro fr nw ⟨c, hc, td, tr, rfl, rfl, hc1, ec, c1, c2⟩
            have vc : (hs.map vref)[c]? = some (vref hc) := by simp [ec]
            have hcl := (List.getElem?_eq_some_iff.mp ec).1
            with_reducible (refine s_cons ?_; (refine' s_AssignSub ?_ ?hh; (case hh => with_unfolding_all rfl)); refine r_Subscript ?_; (refine' r_loc ?ee ?nn ?vv ?_; (case ee => assumption); (case nn => walk_at "has"); (case vv => walk_at "has")); (refine' r_loc ?ee ?nn ?vv ?_; (case ee => assumption); (case nn => walk_at "has"); (case vv => walk_at "has")))
            refine x_list_item (v := vref hc) (seesL_nw (by walk_at "has")) (by omega) (by omega) (by rw [Int.toNat_natCast]; exact vc) ?_
            with_reducible ((refine' r_loc ?ee ?nn ?vv ?_; (case ee => assumption); (case nn => walk_at "has"); (case vv => walk_at "has")); (refine' r_loc ?ee ?nn ?vv ?_; (case ee => assumption); (case nn => walk_at "has"); (case vv => walk_at "has")))
            refine r_setItem (by walk_at "has") (by omega) (by rw [hln]; omega) (by rw [hln]; omega) (by walk_at "put") ?_
            with_reducible (refine n_next ?_; refine s_cons ?_; (refine' s_Assign ?_ ?hh; (case hh => with_unfolding_all rfl)); (refine' r_loc ?ee ?nn ?vv ?_; (case ee => assumption); (case nn => walk_at "has"); (case vv => walk_at "has")); (refine' r_store ?ee ?nn ?vv ?_; (case ee => assumption); (case nn => walk_at "has"); (case vv => walk_at "put")); refine n_next ?_; refine s_cons ?_; (refine' s_Assign ?_ ?hh; (case hh => with_unfolding_all rfl)); refine r_BinOp ?_; refine r_BinOp ?_; refine r_int (fun _ => ?_); (refine' r_loc ?ee ?nn ?vv ?_; (case ee => assumption); (case nn => walk_at "has"); (case vv => walk_at "has")); (refine' i_mul ?ss (fun _ => ?_); (case ss => walk_at "rng")); refine r_int (fun _ => ?_); refine i_add (fun _ => ?_); (refine' r_store ?ee ?nn ?vv ?_; (case ee => assumption); (case nn => walk_at "has"); (case vv => walk_at "put")); refine n_next ?_; refine s_nil ?_)
            exact wk_next 0 (Or.inr ⟨rfl, c, hc, _, _, _, _, rfl, rfl, hc1, ec, c1, c2⟩) (by omega)
        · simp only [decide_eq_false_iff_not] at h
          have hl1 : hs = [h0] := by
            match hs, h1 with
            | [a], _ => simp at e0; subst e0; rfl
            | _ :: _ :: _, _ => exact absurd h (by simp only [List.length_cons]; omega)
          with_reducible (refine s_nil ?_)
          refine ck_next ⟨0, hs, h0, _, _, _, _, _, _, rfl, rfl, by omega, by rw [hln]; omega, by rw [hln]; omega, by subst hl1; rfl, e0, e0, bP h0 (List.mem_of_getElem? e0), ?_, ?_⟩ (Keeps.rfl' _)
          · subst hl1; simp [sdn]
          · subst hl1
            intro g e h' hm
            simp [sdn] at e hm
            subst e hm
            rw [plt_false]; omega
      · have hcl := (List.getElem?_eq_some_iff.mp ec).1
        with_reducible ((refine' t_Compare ?_ ?hh; (case hh => with_unfolding_all rfl)); (refine' r_loc ?ee ?nn ?vv ?_; (case ee => assumption); (case nn => walk_at "has"); (case vv => walk_at "has")); (refine' r_loc ?ee ?nn ?vv ?_; (case ee => assumption); (case nn => walk_at "has"); (case vv => walk_at "has")); refine i_lt ?_; refine t_bool ?_)
        refine r_if (fun h => ?_) (fun h => ?_)
        · simp only [decide_eq_true_eq] at h; omega
        · with_reducible (refine s_nil ?_)
          have up := up_pure e0 ec hc1 hl c1 c2
          refine ck_next ⟨c, (hs.set 0 hc).set c h0, hc, _, _, _, _, _, _, rfl, rfl, by omega, by rw [List.length_set, hln]; exact hcl, by rw [List.length_set, hln]; exact hl, by simp [List.map_set], ?_, ?_, bP hc (List.mem_of_getElem? ec), up.1, up.2⟩ (Keeps.rfl' _)
          · simp [hcl]
          · have : c ≠ 0 := by omega
            have h00 : 0 < hs.length := by omega
            rw [List.getElem?_set_ne this, List.getElem?_set_self h00]
    · rintro fr nw ⟨q, hs1, g0, vs, tq, te, p1, p2, p3, rfl, rfl, hq2, hq, hl3, e1, e2, e3, hg0, hperm, hroot⟩
      with_reducible (refine s_cons ?_; (refine' s_AssignSub ?_ ?hh; (case hh => with_unfolding_all rfl)); (refine' r_loc ?ee ?nn ?vv ?_; (case ee => assumption); (case nn => walk_at "has"); (case vv => walk_at "has")); (refine' r_loc ?ee ?nn ?vv ?_; (case ee => assumption); (case nn => walk_at "has"); (case vv => walk_at "has")); (refine' r_loc ?ee ?nn ?vv ?_; (case ee => assumption); (case nn => walk_at "has"); (case vv => walk_at "has")))
      refine r_setItem (by walk_at "has") (by omega) (by omega) (by omega) (by walk_at "put") ?_
      rw [Int.toNat_natCast, e1]
      with_reducible (refine n_next ?_; refine s_cons ?_; (refine' s_Expr ?_ ?hh ?gg; (case hh => exact EnvOk.inter (by assumption)); (case gg => with_unfolding_all rfl)); refine r_CallN ?_; (refine' r_glob ?ee ?nn ?vv ?_; (case ee => assumption); (case nn => walk_at "has"); (case vv => walk_at "has")); (refine' r_cw_def ?ff ?_ ?hh; (case ff => walk_at "isfn"); (case hh => with_unfolding_all rfl)); (refine' r_args ?_ ?hh; (case hh => with_unfolding_all rfl)); (refine' r_loc ?ee ?nn ?vv ?_; (case ee => assumption); (case nn => walk_at "has"); (case vv => walk_at "has")); (refine' r_args ?_ ?hh; (case hh => with_unfolding_all rfl)); (refine' r_loc ?ee ?nn ?vv ?_; (case ee => assumption); (case nn => walk_at "has"); (case vv => walk_at "has")); (refine' r_args ?_ ?hh; (case hh => with_unfolding_all rfl)); (refine' r_loc ?ee ?nn ?vv ?_; (case ee => assumption); (case nn => walk_at "has"); (case vv => walk_at "has")); refine r_args_nil ?_; refine r_fn ?_)
      refine siftdown_call (by walk_at "has") e2 e3 hq2 (by have := congrArg List.length e1; simp at this; omega) (bP h0 (List.mem_of_getElem? e0)).sees hg0.sees (ok'.le (by omega)) (fun nw' hp => ?_)
      rw [put1 hp]
      with_reducible (refine n_next ?_; refine s_nil ?_)
      exact rk_next ⟨rfl, _, hperm, hroot, rfl⟩
  · rintro v d' nw' ⟨rfl, hs', h1, h2, rfl⟩ hput
    exact k hs' nw' h1 h2 hput
end

-- E3
section
variable {prog : Program} {w : World} {A : Around} {E : Value → Shared → Prop} {Q : Value → Shared → Prop} {L : Addr} {b : Shared} {fr : Frm} {nw : Led}

theorem push_pure {hs : List HI} {g h0 : HI} (hr : RootMin hs) (hl : hs.length ≤ 2) (e0 : (hs ++ [g])[0]? = some h0) : (sdn (hs ++ [g]) hs.length g h0).Perm (hs ++ [g]) ∧ RootMin (sdn (hs ++ [g]) hs.length g h0) := by
  match hs, hl with
  | [], _ =>
    simp at e0; subst e0
    refine ⟨by simp [sdn], ?_⟩
    intro q e h hm
    simp [sdn] at e hm
    subst e hm
    rw [plt_false]; omega
  | [a], _ =>
    simp at e0; subst e0
    unfold sdn
    by_cases h : plt g.2 a.2 = true
    · simp [h]
      exact ⟨List.Perm.swap _ _ _, root2 (by rw [plt_true] at h; rw [plt_false]; omega)⟩
    · simp [h]
      exact root2 (by simpa using h)
  | [a, c], _ =>
    simp at e0; subst e0
    have hc := hr a rfl c (by simp)
    unfold sdn
    by_cases h : plt g.2 a.2 = true
    · simp [h]
      refine ⟨?_, root3 ?_ ?_⟩
      · show [g, c, a].Perm [a, c, g]
        exact ((List.Perm.swap c g [a]).trans ((List.Perm.cons c (List.Perm.swap a g [])).trans (List.Perm.swap a c [g])))
      · rw [plt_true] at h; rw [plt_false] at *; omega
      · rw [plt_true] at h; rw [plt_false] at *; omega
    · simp [h]
      exact root3 hc (by simpa using h)

theorem push_call {H : Addr} {hs : List HI} {g : HI} (hH : Has nw H (.list (hs.map vref))) (hr : RootMin hs) (hl : hs.length ≤ 2) (sP : ∀ h ∈ hs, SeesP w L b fr nw h) (sg : SeesP w L b fr nw g) (ok : Ok A 3)
    (k : ∀ hs' nw', hs'.Perm (hs ++ [g]) → RootMin hs' → Put nw H (.list (hs'.map vref)) nw' → St w L b fr nw' (Q .none)) : St w L b fr nw (wpAny (model prog w) A (call (.ref 35) [.ref H, .ref g.1]) Q E) := by
  refine fn_enter1 [("heap", some (.ref H)), ("item", some (.ref g.1))] (P := fun v d => v = .none ∧ ∃ hs', hs'.Perm (hs ++ [g]) ∧ RootMin hs' ∧ d = .list (hs'.map vref)) hH (by have := ok.depth; omega) (by with_unfolding_all rfl) rfl rfl (by kernel_rfl) (by with_unfolding_all rfl) (by dsimp only) (by kernel_rfl) (by kernel_rfl) (by kernel_rfl) (by walk_at "nd") (by walk_at "nd") (by kernel_rfl) ?_ ?_
  · intro env b' hE hT
    have ok' := ok.deeper env
    have bg : Tp b' g := by obtain ⟨t1, t2, q⟩ := sg; exact ⟨t1, t2, hT _ _ q⟩
    have bP : ∀ h ∈ hs, Tp b' h := fun h hh => by obtain ⟨t1, t2, q⟩ := sP h hh; exact ⟨t1, t2, hT _ _ q⟩
    have hln : (hs.map vref).length = hs.length := by simp
    have em : hs.map vref ++ [Value.ref g.1] = (hs ++ [g]).map vref := by simp
    obtain ⟨h0, e0⟩ : ∃ h0, (hs ++ [g])[0]? = some h0 := ⟨(hs ++ [g])[0]'(by simp), by simp⟩
    have b0 : Tp b' h0 := by
      have := List.mem_of_getElem? e0
      simp only [List.mem_append, List.mem_singleton] at this
      rcases this with h | rfl
      · exact bP _ h
      · exact bg
    have pp := push_pure hr hl e0
    with_reducible (refine s_cons ?_; (refine' s_Expr ?_ ?hh ?gg; (case hh => exact EnvOk.inter (by assumption)); (case gg => with_unfolding_all rfl)); (refine' r_Meth ?_ ?hh; (case hh => with_unfolding_all rfl)); (refine' r_loc ?ee ?nn ?vv ?_; (case ee => assumption); (case nn => walk_at "has"); (case vv => walk_at "has")); (refine' m_append ?ll ?_; (case ll => walk_at "has")); refine r_mc ?_; (refine' r_cw_meth ?_ ?hh ?gg; (case hh => with_unfolding_all rfl); (case gg => with_unfolding_all rfl)); (refine' r_args ?_ ?hh; (case hh => with_unfolding_all rfl)); (refine' r_loc ?ee ?nn ?vv ?_; (case ee => assumption); (case nn => walk_at "has"); (case vv => walk_at "has")); refine r_args_nil ?_)
    refine c_append (by walk_at "has") (by rw [hln]; omega) (by walk_at "put") ?_
    rw [em]
    with_reducible (refine n_next ?_; refine s_cons ?_; (refine' s_Expr ?_ ?hh ?gg; (case hh => exact EnvOk.inter (by assumption)); (case gg => with_unfolding_all rfl)); refine r_CallN ?_; (refine' r_glob ?ee ?nn ?vv ?_; (case ee => assumption); (case nn => walk_at "has"); (case vv => walk_at "has")); (refine' r_cw_def ?ff ?_ ?hh; (case ff => walk_at "isfn"); (case hh => with_unfolding_all rfl)); (refine' r_args ?_ ?hh; (case hh => with_unfolding_all rfl)); (refine' r_loc ?ee ?nn ?vv ?_; (case ee => assumption); (case nn => walk_at "has"); (case vv => walk_at "has")); (refine' r_args ?_ ?hh; (case hh => with_unfolding_all rfl)); refine r_int (fun _ => ?_); (refine' r_args ?_ ?hh; (case hh => with_unfolding_all rfl)); refine r_BinOp ?_; refine r_CallN ?_; (refine' r_glob ?ee ?nn ?vv ?_; (case ee => assumption); (case nn => walk_at "has"); (case vv => walk_at "has")); (refine' r_cw_builtin ?_ ?hh ?gg; (case hh => with_unfolding_all rfl); (case gg => with_unfolding_all rfl)); (refine' r_args ?_ ?hh; (case hh => with_unfolding_all rfl)); (refine' r_loc ?ee ?nn ?vv ?_; (case ee => assumption); (case nn => walk_at "has"); (case vv => walk_at "has")); refine r_args_nil ?_; (refine' c_len_list ?ll ?ss (fun _ => ?_); (case ll => walk_at "sees"); (case ss => walk_at "side")); refine r_int (fun _ => ?_); refine i_sub (fun _ => ?_); refine r_args_nil ?_; refine r_fn ?_)
    have ep : (((hs ++ [g]).map vref).length : Int) - 1 = (hs.length : Nat) := by simp
    rw [ep]
    refine siftdown_call (by walk_at "has") (by simp) e0 (by omega) (by first | (simp; done) | (simp; omega)) bg.sees b0.sees (ok'.le (by omega)) (fun nw' hp => ?_)
    rw [put1 hp]
    with_reducible (refine n_next ?_; refine s_nil ?_)
    exact rk_next ⟨rfl, _, pp.1, pp.2, rfl⟩
  · rintro v d' nw' ⟨rfl, hs', h1, h2, rfl⟩ hput
    exact k hs' nw' h1 h2 hput

theorem replace_call {H : Addr} {h0 g : HI} {rest : List HI} (hH : Has nw H (.list ((h0 :: rest).map vref))) (hl : rest.length ≤ 2) (sP : ∀ h ∈ rest, SeesP w L b fr nw h) (sg : SeesP w L b fr nw g) (ok : Ok A 3)
    (k : ∀ hs' nw', hs'.Perm (g :: rest) → RootMin hs' → Put nw H (.list (hs'.map vref)) nw' → St w L b fr nw' (Q (vref h0))) : St w L b fr nw (wpAny (model prog w) A (call (.ref 49) [.ref H, .ref g.1]) Q E) := by
  refine fn_enter1 [("heap", some (.ref H)), ("item", some (.ref g.1)), ("returnitem", none)] (P := fun v d => v = vref h0 ∧ ∃ hs', hs'.Perm (g :: rest) ∧ RootMin hs' ∧ d = .list (hs'.map vref)) hH (by have := ok.depth; omega) (by with_unfolding_all rfl) rfl rfl (by kernel_rfl) (by with_unfolding_all rfl) (by dsimp only) (by kernel_rfl) (by kernel_rfl) (by kernel_rfl) (by walk_at "nd") (by walk_at "nd") (by kernel_rfl) ?_ ?_
  · intro env b' hE hT
    have ok' := ok.deeper env
    have bg : Tp b' g := by obtain ⟨t1, t2, q⟩ := sg; exact ⟨t1, t2, hT _ _ q⟩
    have bP : ∀ h ∈ rest, Tp b' h := fun h hh => by obtain ⟨t1, t2, q⟩ := sP h hh; exact ⟨t1, t2, hT _ _ q⟩
    have hln : (rest.map vref).length = rest.length := by simp
    have em : ((h0 :: rest).map vref).set 0 (Value.ref g.1) = (g :: rest).map vref := by simp
    with_reducible (refine s_cons ?_; (refine' s_Assign ?_ ?hh; (case hh => with_unfolding_all rfl)); refine r_Subscript ?_; (refine' r_loc ?ee ?nn ?vv ?_; (case ee => assumption); (case nn => walk_at "has"); (case vv => walk_at "has")); refine r_int (fun _ => ?_))
    refine x_list_item (v := vref h0) (seesL_nw (by walk_at "has")) (by omega) (by omega) (by simp) ?_
    with_reducible ((refine' r_store ?ee ?nn ?vv ?_; (case ee => assumption); (case nn => walk_at "has"); (case vv => walk_at "put")); refine n_next ?_; refine s_cons ?_; (refine' s_AssignSub ?_ ?hh; (case hh => with_unfolding_all rfl)); (refine' r_loc ?ee ?nn ?vv ?_; (case ee => assumption); (case nn => walk_at "has"); (case vv => walk_at "has")); (refine' r_loc ?ee ?nn ?vv ?_; (case ee => assumption); (case nn => walk_at "has"); (case vv => walk_at "has")); refine r_int (fun _ => ?_))
    refine r_setItem (by walk_at "has") (by omega) (by first | (simp; done) | (simp; omega)) (by first | (simp; done) | (simp; omega)) (by walk_at "put") ?_
    rw [show (0 : Int).toNat = 0 from rfl, em]
    with_reducible (refine n_next ?_; refine s_cons ?_; (refine' s_Expr ?_ ?hh ?gg; (case hh => exact EnvOk.inter (by assumption)); (case gg => with_unfolding_all rfl)); refine r_CallN ?_; (refine' r_glob ?ee ?nn ?vv ?_; (case ee => assumption); (case nn => walk_at "has"); (case vv => walk_at "has")); (refine' r_cw_def ?ff ?_ ?hh; (case ff => walk_at "isfn"); (case hh => with_unfolding_all rfl)); (refine' r_args ?_ ?hh; (case hh => with_unfolding_all rfl)); (refine' r_loc ?ee ?nn ?vv ?_; (case ee => assumption); (case nn => walk_at "has"); (case vv => walk_at "has")); (refine' r_args ?_ ?hh; (case hh => with_unfolding_all rfl)); refine r_int (fun _ => ?_); refine r_args_nil ?_; refine r_fn ?_)
    refine siftup_call (by walk_at "has") (by simp) (by first | (simp; done) | (simp; omega)) (fun h hh => ?_) (ok'.le (by omega)) (fun hs' nw' h1 h2 hp => ?_)
    · rcases List.mem_cons.mp hh with rfl | hh
      · exact bg.sees
      · exact (bP h hh).sees
    rw [put1 hp]
    with_reducible (refine n_next ?_; refine s_cons ?_; refine s_Return ?_; (refine' r_loc ?ee ?nn ?vv ?_; (case ee => assumption); (case nn => walk_at "has"); (case vv => walk_at "has")); refine n_ret ?_)
    exact rk_ret ⟨rfl, _, h1, h2, rfl⟩
  · rintro v d' nw' ⟨rfl, hs', h1, h2, rfl⟩ hput
    exact k hs' nw' h1 h2 hput

theorem pop_call {H : Addr} {h0 : HI} {rest : List HI} (hH : Has nw H (.list ((h0 :: rest).map vref))) (hl : rest.length ≤ 2) (sP : ∀ h ∈ rest, SeesP w L b fr nw h) (ok : Ok A 3)
    (k : ∀ hs' nw', hs'.Perm rest → RootMin hs' → Put nw H (.list (hs'.map vref)) nw' → St w L b fr nw' (Q (vref h0))) : St w L b fr nw (wpAny (model prog w) A (call (.ref 42) [.ref H]) Q E) := by
  refine fn_enter1 [("heap", some (.ref H)), ("lastelt", none), ("returnitem", none)] (P := fun v d => v = vref h0 ∧ ∃ hs', hs'.Perm rest ∧ RootMin hs' ∧ d = .list (hs'.map vref)) hH (by have := ok.depth; omega) (by with_unfolding_all rfl) rfl rfl (by kernel_rfl) (by with_unfolding_all rfl) (by dsimp only) (by kernel_rfl) (by kernel_rfl) (by kernel_rfl) (by walk_at "nd") (by walk_at "nd") (by kernel_rfl) ?_ ?_
  · intro env b' hE hT
    have ok' := ok.deeper env
    have bP : ∀ h ∈ rest, Tp b' h := fun h hh => by obtain ⟨t1, t2, q⟩ := sP h hh; exact ⟨t1, t2, hT _ _ q⟩
    rcases List.eq_nil_or_concat rest with rfl | ⟨mid, l, rfl⟩
    · rw [show ([h0] : List HI).map vref = [] ++ [vref h0] from rfl]
      with_reducible (refine s_cons ?_; (refine' s_Assign ?_ ?hh; (case hh => with_unfolding_all rfl)); (refine' r_Meth ?_ ?hh; (case hh => with_unfolding_all rfl)); (refine' r_loc ?ee ?nn ?vv ?_; (case ee => assumption); (case nn => walk_at "has"); (case vv => walk_at "has")); (refine' m_pop ?ll ?_; (case ll => walk_at "has")); refine r_mc ?_; refine r_cw_meth0 ?_)
      refine c_pop (vs := []) (v := vref h0) (by walk_at "has") (by simp) (by walk_at "put") ?_
      with_reducible ((refine' r_store ?ee ?nn ?vv ?_; (case ee => assumption); (case nn => walk_at "has"); (case vv => walk_at "put")); refine n_next ?_; refine s_cons ?_; refine s_If ?_; (refine' t_val ?_ ?hh; (case hh => with_unfolding_all rfl)); (refine' r_loc ?ee ?nn ?vv ?_; (case ee => assumption); (case nn => walk_at "has"); (case vv => walk_at "has")); (refine' t_list ?ll ?ss ?_; (case ll => walk_at "sees"); (case ss => walk_at "side")))
      refine r_if (fun h => nomatch h) (fun _ => ?_)
      with_reducible (refine s_nil ?_; refine n_next ?_; refine s_cons ?_; refine s_Return ?_; (refine' r_loc ?ee ?nn ?vv ?_; (case ee => assumption); (case nn => walk_at "has"); (case vv => walk_at "has")); refine n_ret ?_)
      exact rk_ret ⟨rfl, [], List.Perm.refl _, fun _ e => (nomatch e), rfl⟩
    · have em : (h0 :: (mid ++ [l])).map vref = ((h0 :: mid).map vref) ++ [vref l] := by simp
      simp only [List.concat_eq_append, List.length_append, List.length_singleton] at *
      rw [em]
      with_reducible (refine s_cons ?_; (refine' s_Assign ?_ ?hh; (case hh => with_unfolding_all rfl)); (refine' r_Meth ?_ ?hh; (case hh => with_unfolding_all rfl)); (refine' r_loc ?ee ?nn ?vv ?_; (case ee => assumption); (case nn => walk_at "has"); (case vv => walk_at "has")); (refine' m_pop ?ll ?_; (case ll => walk_at "has")); refine r_mc ?_; refine r_cw_meth0 ?_)
      refine c_pop (vs := (h0 :: mid).map vref) (v := vref l) (by walk_at "has") (by first | (simp; done) | (simp; omega)) (by walk_at "put") ?_
      with_reducible ((refine' r_store ?ee ?nn ?vv ?_; (case ee => assumption); (case nn => walk_at "has"); (case vv => walk_at "put")); refine n_next ?_; refine s_cons ?_; refine s_If ?_; (refine' t_val ?_ ?hh; (case hh => with_unfolding_all rfl)); (refine' r_loc ?ee ?nn ?vv ?_; (case ee => assumption); (case nn => walk_at "has"); (case vv => walk_at "has")); (refine' t_list ?ll ?ss ?_; (case ll => walk_at "sees"); (case ss => walk_at "side")))
      refine r_if (fun _ => ?_) (fun h => nomatch h)
      with_reducible (refine s_cons ?_; (refine' s_Assign ?_ ?hh; (case hh => with_unfolding_all rfl)); refine r_Subscript ?_; (refine' r_loc ?ee ?nn ?vv ?_; (case ee => assumption); (case nn => walk_at "has"); (case vv => walk_at "has")); refine r_int (fun _ => ?_))
      refine x_list_item (v := vref h0) (seesL_nw (by walk_at "has")) (by omega) (by omega) (by simp) ?_
      with_reducible ((refine' r_store ?ee ?nn ?vv ?_; (case ee => assumption); (case nn => walk_at "has"); (case vv => walk_at "put")); refine n_next ?_; refine s_cons ?_; (refine' s_AssignSub ?_ ?hh; (case hh => with_unfolding_all rfl)); (refine' r_loc ?ee ?nn ?vv ?_; (case ee => assumption); (case nn => walk_at "has"); (case vv => walk_at "has")); (refine' r_loc ?ee ?nn ?vv ?_; (case ee => assumption); (case nn => walk_at "has"); (case vv => walk_at "has")); refine r_int (fun _ => ?_))
      refine r_setItem (by walk_at "has") (by omega) (by first | (simp; done) | (simp; omega)) (by first | (simp; done) | (simp; omega)) (by walk_at "put") ?_
      rw [show (0 : Int).toNat = 0 from rfl, show ((h0 :: mid).map vref).set 0 (vref l) = (l :: mid).map vref from by simp]
      with_reducible (refine n_next ?_; refine s_cons ?_; (refine' s_Expr ?_ ?hh ?gg; (case hh => exact EnvOk.inter (by assumption)); (case gg => with_unfolding_all rfl)); refine r_CallN ?_; (refine' r_glob ?ee ?nn ?vv ?_; (case ee => assumption); (case nn => walk_at "has"); (case vv => walk_at "has")); (refine' r_cw_def ?ff ?_ ?hh; (case ff => walk_at "isfn"); (case hh => with_unfolding_all rfl)); (refine' r_args ?_ ?hh; (case hh => with_unfolding_all rfl)); (refine' r_loc ?ee ?nn ?vv ?_; (case ee => assumption); (case nn => walk_at "has"); (case vv => walk_at "has")); (refine' r_args ?_ ?hh; (case hh => with_unfolding_all rfl)); refine r_int (fun _ => ?_); refine r_args_nil ?_; refine r_fn ?_)
      refine siftup_call (by walk_at "has") (by simp) (by first | (simp; done) | (simp; omega)) (fun h hh => ?_) (ok'.le (by omega)) (fun hs' nw' h1 h2 hp => ?_)
      · refine (bP h ?_).sees
        simp only [List.mem_cons, List.mem_append, List.mem_singleton] at hh ⊢
        rcases hh with rfl | hh
        · exact Or.inr (Or.inl rfl)
        · exact Or.inl hh
      rw [put1 hp]
      with_reducible (refine n_next ?_; refine s_cons ?_; refine s_Return ?_; (refine' r_loc ?ee ?nn ?vv ?_; (case ee => assumption); (case nn => walk_at "has"); (case vv => walk_at "has")); refine n_ret ?_; refine n_ret ?_)
      refine rk_ret ⟨rfl, _, h1.trans ?_, h2, rfl⟩
      exact (List.perm_append_comm (l₁ := [l]) (l₂ := mid))
  · rintro v d' nw' ⟨rfl, hs', h1, h2, rfl⟩ hput
    exact k hs' nw' h1 h2 hput
end

-- P3
open PySem PyProof.Rows
abbrev PI := Int × Int
theorem plt_irrefl (p : PI) : plt p p = false := by simp [plt]
theorem plt_trans {p q r : PI} (h1 : plt p q = true) (h2 : plt q r = true) : plt p r = true := by rw [plt_true] at *; omega
theorem plt_total {p q : PI} (h : plt p q = false) (hne : p ≠ q) : plt q p = true := by
  rw [plt_false] at h; rw [plt_true]
  obtain ⟨a, c⟩ := p; obtain ⟨d, e⟩ := q
  simp only [ne_eq, Prod.mk.injEq] at *
  omega
theorem plt_asymm {p q : PI} (h : plt p q = true) : plt q p = false := by rw [plt_true] at h; rw [plt_false]; omega
/-- put in, in order -/
def ins (p : PI) : List PI → List PI
  | [] => [p]
  | a :: r => if plt p a then p :: a :: r else a :: ins p r
def srt (l : List PI) : List PI := l.foldl (fun s p => ins p s) []
theorem srt_snoc (l : List PI) (p : PI) : srt (l ++ [p]) = ins p (srt l) := by simp [srt, List.foldl_append]
theorem ins_perm (p : PI) : ∀ l : List PI, (ins p l).Perm (p :: l)
  | [] => .refl _
  | a :: r => by
    unfold ins
    split
    · exact .refl _
    · exact ((ins_perm p r).cons a).trans (.swap _ _ _)
theorem srt_perm (l : List PI) : (srt l).Perm l := by
  have key : ∀ (l s : List PI), (l.foldl (fun s p => ins p s) s).Perm (s ++ l) := by
    intro l
    induction l with
    | nil => intro s; simp
    | cons a r ih =>
      intro s
      rw [List.foldl_cons]
      refine (ih _).trans ?_
      refine ((ins_perm a s).append_right r).trans ?_
      exact List.perm_middle.symm
  simpa [srt] using key l []
abbrev Up3 (l : List PI) : Prop := l.Pairwise fun a c => plt a c = true
theorem ins_up {p : PI} : ∀ {l : List PI}, Up3 l → p ∉ l → Up3 (ins p l)
  | [], _, _ => by simp [ins, Up3]
  | a :: r, h, hp => by
    unfold ins
    simp only [List.mem_cons, not_or] at hp
    have h' := List.pairwise_cons.mp h
    split
    · rename_i hpa
      refine List.pairwise_cons.mpr ⟨fun c hc => ?_, h⟩
      rcases List.mem_cons.mp hc with rfl | hc
      · exact hpa
      · exact plt_trans hpa (h'.1 c hc)
    · rename_i hpa
      refine List.pairwise_cons.mpr ⟨fun c hc => ?_, ins_up h'.2 hp.2⟩
      rcases List.mem_cons.mp ((ins_perm p r).mem_iff.mp hc) with rfl | hc
      · exact plt_total (by simpa using hpa) hp.1
      · exact h'.1 c hc
theorem srt_up {l : List PI} (h : l.Nodup) : Up3 (srt l) := by
  have key : ∀ (l s : List PI), Up3 s → (s ++ l).Nodup → Up3 (l.foldl (fun s p => ins p s) s) := by
    intro l
    induction l with
    | nil => intro s hs _; exact hs
    | cons a r ih =>
      intro s hs hn
      rw [List.foldl_cons]
      have hn2 : (a :: (s ++ r)).Nodup := (List.perm_middle.nodup_iff).mp hn
      have hna : a ∉ s := fun hm => (List.nodup_cons.mp hn2).1 (List.mem_append_left _ hm)
      refine ih _ (ins_up hs hna) ?_
      exact (((ins_perm a s).append_right r).nodup_iff).mpr hn2
  exact key l [] .nil (by simpa using h)
/-- sorted lists of the same things are the same -/
theorem up_unique : ∀ {l l' : List PI}, Up3 l → Up3 l' → l.Perm l' → l = l'
  | [], l', _, _, h => (h.nil_eq).symm ▸ rfl
  | a :: r, [], _, _, h => absurd h.length_eq (by simp)
  | a :: r, c :: r', h1, h2, h => by
    have h1' := List.pairwise_cons.mp h1
    have h2' := List.pairwise_cons.mp h2
    have e : a = c := by
      have ha := h.mem_iff.mp (List.mem_cons_self (a := a) (l := r))
      have hc := h.mem_iff.mpr (List.mem_cons_self (a := c) (l := r'))
      rcases List.mem_cons.mp ha with e | ha
      · exact e
      · rcases List.mem_cons.mp hc with e | hc
        · exact e.symm
        · have q1 := h2'.1 a ha
          have q2 := h1'.1 c hc
          rw [plt_asymm q1] at q2; cases q2
    subst e
    rw [up_unique h1'.2 h2'.2 ((List.perm_cons a).mp h)]
theorem srt_of {l l' : List PI} (h : Up3 l') (hp : l'.Perm l) : srt l = l' := by
  have hn : l'.Nodup := h.imp (fun {a c} q e => by subst e; rw [plt_irrefl] at q; cases q)
  exact up_unique (srt_up (hp.nodup_iff.mp hn)) h ((srt_perm l).trans hp.symm)
/-- three of them at most: one more, nearer than the third -/
theorem take_ins_lt {p a1 a2 a3 : PI} {r : List PI} (h : Up3 (a1 :: a2 :: a3 :: r)) (hp : plt p a3 = true) : ((ins p (a1 :: a2 :: a3 :: r)).take 3).Perm [p, a1, a2] := by
  unfold ins
  split
  · simp
  · unfold ins
    split
    · simp only [List.take_succ_cons, List.take_zero]; exact .swap _ _ _
    · unfold ins
      rw [if_pos hp]
      simp only [List.take_succ_cons, List.take_zero]
      exact (List.Perm.cons a1 (.swap _ _ _)).trans (.swap _ _ _)
theorem take_ins_ge {p a1 a2 a3 : PI} {r : List PI} (h : Up3 (a1 :: a2 :: a3 :: r)) (hp : plt p a3 = false) : (ins p (a1 :: a2 :: a3 :: r)).take 3 = [a1, a2, a3] := by
  have h1 := List.pairwise_cons.mp h
  have h2 := List.pairwise_cons.mp h1.2
  have n1 : plt p a1 = false := by
    cases q : plt p a1 with
    | false => rfl
    | true => rw [plt_trans q (h1.1 a3 (by simp))] at hp; cases hp
  have n2 : plt p a2 = false := by
    cases q : plt p a2 with
    | false => rfl
    | true => rw [plt_trans q (h2.1 a3 (by simp))] at hp; cases hp
  unfold ins
  rw [if_neg (by rw [n1]; simp)]
  unfold ins
  rw [if_neg (by rw [n2]; simp)]
  unfold ins
  rw [if_neg (by rw [hp]; simp)]
  simp
theorem take_ins_few {p : PI} {l : List PI} (h : l.length < 3) : ((ins p l).take 3).Perm (p :: l.take 3) := by
  have e : (ins p l).length = l.length + 1 := by rw [(ins_perm p l).length_eq]; simp
  rw [List.take_of_length_le (by omega), List.take_of_length_le (by omega)]
  exact ins_perm p l

-- P4
open PySem PySem.W PyProof.Rows
/-- a tree of questions, answered -/
def ev (n : Nat) (lt : Nat → Nat → Bool) {α : Type} : KasT α → Option α
  | .ret a => some a
  | .ask i j k => if i < n ∧ j < n then ev n lt (k (lt i j)) else none
section
variable {n : Nat} {lt : Nat → Nat → Bool}
theorem ev_bind {α β : Type} {f : α → KasT β} : ∀ (t : KasT α), ev n lt (t.bind f) = (ev n lt t).bind fun a => ev n lt (f a)
  | .ret a => rfl
  | .ask i j k => by
    show (if i < n ∧ j < n then ev n lt ((k (lt i j)).bind f) else none) = _
    simp only [ev]
    split
    · exact ev_bind (k (lt i j))
    · rfl
theorem ev_ask {α : Type} {i j : Nat} {k : Bool → KasT α} (hi : i < n) (hj : j < n) : ev n lt (.ask i j k) = ev n lt (k (lt i j)) := by
  show (if i < n ∧ j < n then _ else _) = _
  rw [if_pos ⟨hi, hj⟩]
theorem ev_wp {α : Type} {cmp : Nat → Nat → (Bool → Shared → Prop) → Shared → Prop} {s : Shared} {Q : α → Shared → Prop} (hc : ∀ i j C, i < n → j < n → C (lt i j) s → cmp i j C s) : ∀ (t : KasT α) {a : α}, ev n lt t = some a → Q a s → t.kasWp cmp Q s
  | .ret a, b, h, hq => by cases h; exact hq
  | .ask i j k, b, h, hq => by
    simp only [ev] at h
    split at h
    · rename_i hij
      exact hc i j _ hij.1 hij.2 (ev_wp hc (k (lt i j)) h hq)
    · cases h
structure Pm (n : Nat) (p : Array Nat) : Prop where
  size : p.size = n
  perm : p.toList.Perm (List.range n)
theorem Pm.bd {p : Array Nat} (h : Pm n p) {k : Nat} (hk : k < n) : p.getD k 0 < n := by
  have hs := h.size
  have e : p.getD k 0 = p[k] := by simp [Array.getD, hs, hk]
  rw [e]
  have : p[k] ∈ p.toList := by simp
  exact List.mem_range.mp (h.perm.mem_iff.mp this)
theorem Pm.inj {p : Array Nat} (h : Pm n p) {a c : Nat} (ha : a < n) (hc : c < n) (hac : a ≠ c) : p.getD a 0 ≠ p.getD c 0 := by
  have hs := h.size
  have nd : p.toList.Nodup := (h.perm.nodup_iff).mpr List.nodup_range
  have e1 : p.getD a 0 = p.toList[a]'(by simpa [hs] using ha) := by simp [Array.getD, hs, ha]
  have e2 : p.getD c 0 = p.toList[c]'(by simpa [hs] using hc) := by simp [Array.getD, hs, hc]
  rw [e1, e2]
  have pw := List.pairwise_iff_getElem.mp (List.nodup_iff_pairwise_ne.mp nd)
  rcases Nat.lt_or_gt_of_ne hac with h1 | h1
  · exact pw a c _ _ h1
  · exact Ne.symm (pw c a _ _ h1)
theorem getD_of {p q : Array Nat} {a c : Nat} (h : p[a]? = q[c]?) : p.getD a 0 = q.getD c 0 := by
  rw [Array.getD_eq_getD_getElem?, Array.getD_eq_getD_getElem?, h]
def Asc (lt : Nat → Nat → Bool) (p : Array Nat) (m : Nat) : Prop := ∀ a c, a < c → c < m → lt (p.getD a 0) (p.getD c 0) = true
def Dsc (lt : Nat → Nat → Bool) (p : Array Nat) (m : Nat) : Prop := ∀ a c, a < c → c < m → lt (p.getD c 0) (p.getD a 0) = true
variable (tr : ∀ i j k, lt i j = true → lt j k = true → lt i k = true) (tot : ∀ i j, i < n → j < n → i ≠ j → lt i j = false → lt j i = true)
theorem Asc.one (p : Array Nat) : Asc lt p 1 := fun a c h1 h2 => by omega
theorem Dsc.one (p : Array Nat) : Dsc lt p 1 := fun a c h1 h2 => by omega
include tr
theorem Asc.more {p : Array Nat} {m : Nat} (h : Asc lt p m) (hm : 1 ≤ m) (hl : lt (p.getD (m - 1) 0) (p.getD m 0) = true) : Asc lt p (m + 1) := by
  intro a c h1 h2
  by_cases e : c = m
  · subst e
    by_cases e2 : a = c - 1
    · subst e2; exact hl
    · exact tr _ _ _ (h a (c - 1) (by omega) (by omega)) hl
  · exact h a c h1 (by omega)
theorem Dsc.more {p : Array Nat} {m : Nat} (h : Dsc lt p m) (hm : 1 ≤ m) (hl : lt (p.getD m 0) (p.getD (m - 1) 0) = true) : Dsc lt p (m + 1) := by
  intro a c h1 h2
  by_cases e : c = m
  · subst e
    by_cases e2 : a = c - 1
    · subst e2; exact hl
    · exact tr _ _ _ hl (h a (c - 1) (by omega) (by omega))
  · exact h a c h1 (by omega)
include tot
theorem asc_ev {p : Array Nat} (hp : Pm n p) : ∀ (f k : Nat), 1 ≤ k → k + f = n → Asc lt p k → ∃ m, ev n lt (kas_asc p f k) = some m ∧ k ≤ m ∧ m ≤ n ∧ Asc lt p m ∧ (m = n ∨ (m < n ∧ lt (p.getD m 0) (p.getD (m - 1) 0) = true))
  | 0, k, h1, h2, ha => ⟨k, rfl, by omega, by omega, ha, .inl (by omega)⟩
  | f + 1, k, h1, h2, ha => by
    unfold kas_asc
    rw [ev_ask (hp.bd (by omega)) (hp.bd (by omega))]
    cases hc : lt (p.getD k 0) (p.getD (k - 1) 0) with
    | true =>
      rw [if_pos rfl]
      exact ⟨k, rfl, by omega, by omega, ha, .inr ⟨by omega, hc⟩⟩
    | false =>
      rw [if_neg (by simp)]
      obtain ⟨m, q1, q2, q3⟩ := asc_ev hp f (k + 1) (by omega) (by omega) (ha.more tr h1 (tot _ _ (hp.bd (by omega)) (hp.bd (by omega)) (hp.inj (by omega) (by omega) (by omega)) hc))
      exact ⟨m, q1, by omega, q3⟩
theorem desc_ev {p : Array Nat} (hp : Pm n p) : ∀ (f k : Nat), 1 ≤ k → k + f = n → Dsc lt p k → ∃ m, ev n lt (kas_desc f p k 0) = some (p, m, 0) ∧ k ≤ m ∧ m ≤ n ∧ Dsc lt p m
  | 0, k, h1, h2, ha => ⟨k, rfl, by omega, by omega, ha⟩
  | f + 1, k, h1, h2, ha => by
    unfold kas_desc
    rw [ev_ask (hp.bd (by omega)) (hp.bd (by omega))]
    cases hc : lt (p.getD k 0) (p.getD (k - 1) 0) with
    | true =>
      rw [if_pos rfl, if_neg (by omega)]
      obtain ⟨m, q1, q2, q3⟩ := desc_ev hp f (k + 1) (by omega) (by omega) (ha.more tr h1 hc)
      exact ⟨m, q1, by omega, q3⟩
    | false =>
      rw [if_neg (by simp), ev_ask (hp.bd (by omega)) (hp.bd (by omega))]
      rw [tot _ _ (hp.bd (by omega)) (hp.bd (by omega)) (hp.inj (by omega) (by omega) (by omega)) hc, if_pos rfl]
      exact ⟨k, rfl, by omega, by omega, ha⟩
omit tr tot in
theorem rev_pm {p : Array Nat} (hp : Pm n p) (i j : Nat) : Pm n (kas_rev p i j) := ⟨by unfold kas_rev; rw [mirror_size]; exact hp.size, (mirror_perm _ _ _ _).toList.trans hp.perm⟩
omit tr tot in
theorem rev_asc {p : Array Nat} (hp : Pm n p) {m : Nat} (hm : m ≤ n) (h : Dsc lt p m) : Asc lt (kas_rev p 0 m) m := by
  have key : ∀ a, a < m → (kas_rev p 0 m).getD a 0 = p.getD (m - 1 - a) 0 := fun a ha => by
    refine getD_of ?_
    unfold kas_rev
    rw [getElem?_mirror_all (by rw [hp.size]; exact hm), if_pos (by omega)]
    congr 1; omega
  intro a c h1 h2
  rw [key a (by omega), key c h2]
  exact h _ _ (by omega) (by omega)
theorem tail_ev {p : Array Nat} (hp : Pm n p) {m : Nat} (h1 : 1 ≤ m) (hm : m ≤ n) (h : Dsc lt p m) : ∃ m' p', ev n lt (kas_tail3 m n p) = some (m', p') ∧ Pm n p' ∧ 1 ≤ m' ∧ m' ≤ n ∧ Asc lt p' m' := by
  unfold kas_tail3
  rw [ev_bind]
  obtain ⟨m', q1, q2, q3, q4, _⟩ := asc_ev tr tot (rev_pm hp 0 m) (n - m) m h1 (by omega) (rev_asc hp hm h)
  rw [q1]
  exact ⟨m', _, rfl, rev_pm hp 0 m, by omega, q3, q4⟩
theorem count_ev {p : Array Nat} (hp : Pm n p) (h2 : 2 ≤ n) : ∃ m p', ev n lt (kas_count n p) = some (m, p') ∧ Pm n p' ∧ 1 ≤ m ∧ m ≤ n ∧ Asc lt p' m := by
  unfold kas_count
  rw [ev_bind]
  obtain ⟨m, q1, q2, q3, q4, q5⟩ := asc_ev tr tot hp (n - 1) 1 (by omega) (by omega) (Asc.one p)
  rw [q1]
  show ∃ m_1 p', ev n lt (if (m == n) = true then _ else _) = _ ∧ _
  by_cases e : m = n
  · rw [if_pos (by simpa using e)]
    exact ⟨m, p, rfl, hp, q2, q3, q4⟩
  · rw [if_neg (by simpa using e)]
    by_cases e1 : m > 1
    · rw [if_pos e1, ev_ask (hp.bd (by omega)) (hp.bd (by omega)), q4 0 (m - 1) (by omega) (by omega), if_pos rfl]
      exact ⟨m, p, rfl, hp, q2, q3, q4⟩
    · rw [if_neg e1]
      have em : m = 1 := by omega
      subst em
      unfold kas_descPart
      rw [ev_bind]
      have hd : Dsc lt p 2 := by
        rcases q5 with q5 | ⟨_, q5⟩
        · omega
        · exact (Dsc.one p).more tr (by omega) q5
      obtain ⟨m, r1, r2, r3, r4⟩ := desc_ev tr tot hp (n - 2) 2 (by omega) (by omega) hd
      rw [r1]
      show ∃ m_1 p', ev n lt (if (0 : Nat) > 0 then _ else kas_tail3 m n p) = _ ∧ _
      rw [if_neg (by omega)]
      exact tail_ev tr tot hp (by omega) r3 r4
theorem place_ev {p : Array Nat} (hp : Pm n p) {k : Nat} (hk : k < n) (ha : Asc lt p k) : ∀ (f l r : Nat), l ≤ r → r ≤ k → r - l ≤ f → (∀ a, a < l → lt (p.getD a 0) (p.getD k 0) = true) → (∀ a, r ≤ a → a < k → lt (p.getD k 0) (p.getD a 0) = true) →
    ∃ l', ev n lt (kas_place p k f l r) = some l' ∧ l' ≤ k ∧ (∀ a, a < l' → lt (p.getD a 0) (p.getD k 0) = true) ∧ (∀ a, l' ≤ a → a < k → lt (p.getD k 0) (p.getD a 0) = true)
  | 0, l, r, h1, h2, h3, h4, h5 => ⟨l, rfl, by omega, h4, fun a x y => h5 a (by omega) y⟩
  | f + 1, l, r, h1, h2, h3, h4, h5 => by
    unfold kas_place
    by_cases e : l ≥ r
    · rw [if_pos e]
      exact ⟨l, rfl, by omega, h4, fun a x y => h5 a (by omega) y⟩
    · rw [if_neg e, ev_ask (hp.bd (by omega)) (hp.bd (by omega))]
      cases hc : lt (p.getD k 0) (p.getD ((l + r) / 2) 0) with
      | true =>
        rw [if_pos rfl]
        refine place_ev hp hk ha f l ((l + r) / 2) (by omega) (by omega) (by omega) h4 (fun a x y => ?_)
        by_cases e2 : a = (l + r) / 2
        · rw [e2]; exact hc
        · exact tr _ _ _ hc (ha _ _ (by omega) y)
      | false =>
        rw [if_neg (by simp)]
        have hc2 := tot _ _ (hp.bd (by omega)) (hp.bd (by omega)) (hp.inj (by omega) (by omega) (by omega)) hc
        refine place_ev hp hk ha f ((l + r) / 2 + 1) r (by omega) h2 (by omega) (fun a x => ?_) h5
        by_cases e2 : a = (l + r) / 2
        · rw [e2]; exact hc2
        · exact tr _ _ _ (ha _ _ (by omega) (by omega)) hc2
omit tr tot in
theorem bubble_asc {p : Array Nat} (hp : Pm n p) {k l : Nat} (hk : k < n) (hl : l ≤ k) (ha : Asc lt p k) (h4 : ∀ a, a < l → lt (p.getD a 0) (p.getD k 0) = true) (h5 : ∀ a, l ≤ a → a < k → lt (p.getD k 0) (p.getD a 0) = true) : Pm n (bubble p k (k - l)) ∧ Asc lt (bubble p k (k - l)) (k + 1) := by
  refine ⟨⟨by rw [bubble_size]; exact hp.size, (bubble_perm _ _ _).toList.trans hp.perm⟩, ?_⟩
  have key : ∀ a, (bubble p k (k - l)).getD a 0 = if a = l then p.getD k 0 else if l < a ∧ a ≤ k then p.getD (a - 1) 0 else p.getD a 0 := fun a => by
    have := getElem?_bubble (xs := p) (src := k) (by rw [hp.size]; exact hk) (k - l) (by omega) a
    rw [show k - (k - l) = l from by omega] at this
    by_cases e : a = l
    · rw [if_pos e] at this ⊢; exact getD_of this
    · rw [if_neg e] at this ⊢
      by_cases e2 : l < a ∧ a ≤ k
      · rw [if_pos e2] at this ⊢; exact getD_of this
      · rw [if_neg e2] at this ⊢; exact getD_of this
  intro a c h1 h2
  rw [key a, key c]
  by_cases ea : a = l
  · rw [if_pos ea, if_neg (by omega), if_pos (by omega)]
    exact h5 _ (by omega) (by omega)
  · rw [if_neg ea]
    by_cases ea2 : l < a ∧ a ≤ k
    · rw [if_pos ea2, if_neg (by omega), if_pos (by omega)]
      exact ha _ _ (by omega) (by omega)
    · rw [if_neg ea2]
      by_cases ec : c = l
      · rw [if_pos ec]; exact h4 _ (by omega)
      · rw [if_neg ec]
        by_cases ec2 : l < c ∧ c ≤ k
        · rw [if_pos ec2]; exact ha _ _ (by omega) (by omega)
        · rw [if_neg ec2]; exact ha _ _ (by omega) (by omega)
theorem bin_ev : ∀ (f k : Nat) {p : Array Nat}, Pm n p → k + f = n → Asc lt p k → ∃ p', ev n lt (kas_bin f p k) = some p' ∧ Pm n p' ∧ Asc lt p' n
  | 0, k, p, hp, h, ha => ⟨p, rfl, hp, (show k = n by omega) ▸ ha⟩
  | f + 1, k, p, hp, h, ha => by
    unfold kas_bin
    rw [ev_bind]
    obtain ⟨l, q1, q2, q3, q4⟩ := place_ev tr tot hp (by omega) ha k 0 k (by omega) (Nat.le_refl _) (by omega) (fun a x => by omega) (fun a x y => by omega)
    rw [q1]
    obtain ⟨b1, b2⟩ := bubble_asc hp (by omega) q2 ha q3 q4
    exact bin_ev f (k + 1) b1 (by omega) b2
/-- the sort sorts -/
theorem sort_ev (h2 : 2 ≤ n) : ∃ p, ev n lt (kas_sort n) = some p ∧ Pm n p ∧ Asc lt p n := by
  unfold kas_sort
  rw [ev_bind]
  obtain ⟨m, p, q1, q2, q3, q4, q5⟩ := count_ev tr tot (p := (List.range n).toArray) ⟨by simp, by simp⟩ h2
  rw [q1]
  show ∃ p_1, ev n lt (if m < n then _ else _) = _ ∧ _
  by_cases e : m < n
  · rw [if_pos e]
    have em : max m 1 = m := by omega
    show ∃ p_1, ev n lt (kas_bin (n - max m 1) p (max m 1)) = _ ∧ _
    rw [em]
    exact bin_ev tr tot (n - m) m q2 (by omega) q5
  · rw [if_neg e]
    have : m = n := by omega
    exact ⟨p, rfl, q2, this ▸ q5⟩
end

-- C16
section
variable {prog : Program} {w : World} {A : Around} {E : Value → Shared → Prop} {s : Shared}
theorem kat_pair {a c : Addr} {x1 y1 x2 y2 : Int} {t1 t2 t3 t4 : Tok} {Q : Bool → Shared → Prop} (ha : s.heap.IsTuple a #[.int x1 t1, .int y1 t2]) (hc : s.heap.IsTuple c #[.int x2 t3, .int y2 t4]) (h : Q (plt (x1, y1) (x2, y2)) s) :
    wpAny (model prog w) A (keyLt' (tuples' true) (.ref a) (.ref c)) Q E s := by
  obtain ⟨oa, hoa, _, na, hda⟩ := ha
  obtain ⟨oc, hoc, _, nc, hdc⟩ := hc
  refine kat_lt hoa hda hoc hdc ?_
  show KatLex prog w A true _ Q [(Value.int x1 t1, Value.int x2 t3), (Value.int y1 t2, Value.int y2 t4)] 0 s
  refine kat_cons (wpAny_eqBool_int ?_)
  by_cases h1 : x1 = x2
  · subst h1
    rw [beq_self_eq_true]
    refine kat_yes (kat_cons (wpAny_eqBool_int ?_))
    by_cases h2 : y1 = y2
    · subst h2
      rw [beq_self_eq_true]
      refine kat_yes (kat_nil ?_)
      have e : plt (x1, y1) (x1, y1) = false := by simp [plt]
      rw [e] at h
      simpa using h
    · have e : (y1 == y2) = false := by simpa using h2
      rw [e]
      refine kat_no ?_
      show wpAny _ _ (oneLt' false _ _) _ _ _
      refine kat_one _ _ (PyProof.Rows.lt_int ?_)
      have e2 : plt (x1, y1) (x1, y2) = decide (y1 < y2) := by simp [plt]
      rw [← e2]; exact h
  · have e : (x1 == x2) = false := by simpa using h1
    rw [e]
    refine kat_no ?_
    show wpAny _ _ (oneLt' true _ _) _ _ _
    refine oneLt_int ?_
    have e2 : plt (x1, y1) (x2, y2) = decide (x1 < x2) := by simp [plt, h1]
    rw [← e2]; exact h
end
section
variable {prog : Program} {w : World} {A : Around} {E : Value → Shared → Prop} {b : Shared} {fr : Frm} {nw : Led} {Q : Value → Shared → Prop} {L : Addr}
theorem tups_of {h : Heap} : ∀ {hs : List HI}, (∀ p ∈ hs, ∃ t1 t2, h.IsTuple p.1 #[.int p.2.1 t1, .int p.2.2 t2]) → ∃ fs, KatTups h (hs.map vref) fs ∧ fs.length = hs.length ∧ ∀ v ∈ fs, ∃ i t, v = Value.int i t
  | [], _ => ⟨[], .nil, rfl, fun v hv => (nomatch hv)⟩
  | p :: r, hp => by
    obtain ⟨fs, q1, q2, q3⟩ := tups_of (hs := r) fun x hx => hp x (.tail _ hx)
    obtain ⟨t1, t2, o, ho, hc, n, hd⟩ := hp p (.head _)
    refine ⟨.int p.2.1 t1 :: fs, .cons ho hc hd rfl q1, by simp [q2], fun v hv => ?_⟩
    rcases List.mem_cons.mp hv with rfl | hv
    · exact ⟨_, _, rfl⟩
    · exact q3 v hv
theorem c_sorted {l : Addr} {hs : List HI} (hl : SeesL w L b fr nw l (hs.map vref)) (hP : ∀ h ∈ hs, SeesP w L b fr nw h) (hnd : (hs.map (·.2)).Nodup) (h2 : 2 ≤ hs.length) (h64 : hs.length < 64)
    (k : ∀ (D : Addr) (hs' : List HI), hs'.Perm hs → Up3 (hs'.map (·.2)) → St w L b fr ((D, .list (hs'.map vref)) :: nw) (Q (.ref D))) : St w L b fr nw (wpAny (model prog w) A (call (.builtin "sorted") [.ref l]) Q E) := fun s hs0 => by
  obtain ⟨m, F, N, back⟩ := hs0.lib
  refine kat_sorted F N (hl s hs0) (by simpa using h2) (by simpa using h64) fun D e1 h' F' N' hlt => ?_
  have hat : At w L b fr nw { s with heap := h' } := back h' s.toks F' (fun p hp => N' p (.tail _ hp))
  have hT : ∀ p ∈ hs, ∃ t1 t2, h'.IsTuple p.1 #[.int p.2.1 t1, .int p.2.2 t2] := fun p hp => let ⟨t1, t2, q⟩ := hP p hp; ⟨t1, t2, q _ hat⟩
  obtain ⟨fs, f1, f2, f3⟩ := tups_of hT
  refine kat_kind (T := .type "int") (fs := fs) f1 (by omega) (fun v hv => ?_) (by decide) ?_
  · obtain ⟨i, t, rfl⟩ := f3 v hv
    exact Looks.of_pure rfl
  have ek : tuples' (Value.type "int" != Value.type "tuple") = tuples' true := by congr 1
  rw [ek]
  have hlen : (hs.map vref).length = hs.length := by simp
  rw [hlen]
  let pr : Nat → PI := fun i => (hs.getD i (0, 0, 0)).2
  have prnd : ∀ i j, i < hs.length → j < hs.length → i ≠ j → pr i ≠ pr j := by
    intro i j hi hj hij
    have pw := List.pairwise_iff_getElem.mp (List.nodup_iff_pairwise_ne.mp hnd)
    have ei : pr i = (hs.map (·.2))[i]'(by simpa using hi) := by simp [pr, hi]
    have ej : pr j = (hs.map (·.2))[j]'(by simpa using hj) := by simp [pr, hj]
    rw [ei, ej]
    rcases Nat.lt_or_gt_of_ne hij with h | h
    · exact pw i j _ _ h
    · exact Ne.symm (pw j i _ _ h)
  obtain ⟨p, hev, hpm, hasc⟩ := sort_ev (n := hs.length) (lt := fun i j => plt (pr i) (pr j)) (fun i j k a c => plt_trans a c) (fun i j hi hj hij h => plt_total h (prnd i j hi hj hij)) h2
  refine ev_wp (n := hs.length) (lt := fun i j => plt (pr i) (pr j)) (fun i j C hi hj hC => ?_) _ hev ?_
  · unfold kas_ask
    obtain ⟨t1, t2, q1⟩ := hT _ (List.getElem_mem hi)
    obtain ⟨t3, t4, q2⟩ := hT _ (List.getElem_mem hj)
    have e1 : (hs.map vref).getD i Value.none = .ref hs[i].1 := by simp [hi]
    have e2 : (hs.map vref).getD j Value.none = .ref hs[j].1 := by simp [hj]
    rw [e1, e2]
    refine kat_pair q1 q2 ?_
    have e3 : pr i = hs[i].2 := by simp [pr, hi]
    have e4 : pr j = hs[j].2 := by simp [pr, hj]
    rw [e3, e4] at hC
    exact hC
  · let hs' : List HI := p.toList.map fun i => hs.getD i (0, 0, 0)
    have hperm : hs'.Perm hs := by
      have h1 := hpm.perm.map fun i => hs.getD i (0, 0, 0)
      refine h1.trans ?_
      have : (List.range hs.length).map (fun i => hs.getD i (0, 0, 0)) = hs := by
        apply List.ext_getElem
        · simp
        · intro i a c; simp at a; simp [a]
      rw [this]
    have hout : (p.toList.map fun i => (hs.map vref).getD i Value.none) = hs'.map vref := by
      rw [List.map_map]
      apply List.map_congr_left
      intro i hi
      have hi' : i < hs.length := List.mem_range.mp (hpm.perm.mem_iff.mp hi)
      simp [hi']
    have hup : Up3 (hs'.map (·.2)) := by
      rw [List.map_map]
      refine List.pairwise_map.mpr ?_
      refine List.pairwise_iff_getElem.mpr fun i j hi hj hij => ?_
      have hs1 := hpm.size
      have := hasc i j hij (by simpa [hs1] using hj)
      have g1 : p.getD i 0 = p.toList[i] := by simp at hi; simp [Array.getD, hi]
      have g2 : p.getD j 0 = p.toList[j] := by simp at hj; simp [Array.getD, hj]
      rw [g1, g2] at this
      exact this
    rw [hout]
    refine KasFin.intro F' N' (.head fun q hq => Nat.ne_of_lt (hlt q hq)) fun h'' c F'' N'' => ?_
    have hat2 := back h'' s.toks F'' (fun q hq => N'' q (.tail _ hq))
    obtain ⟨g1, g2, g3⟩ := N'' _ (.head _)
    have inAll : ∀ a o, a ≠ L → s.heap.get? a = some o → a < D := fun a o ha e => hlt (a, o) (List.mem_filterMap.mpr ⟨a, List.mem_range.mpr (Heap.lt_size e), by simp [ha, e]⟩)
    refine k D hs' hperm hup _ ⟨hat2.gd, hat2.ns, hat2.keep, hat2.hL, hat2.ndf, fun q hq => ?_, ?_, hat2.eqv⟩
    · rcases List.mem_cons.mp hq with rfl | hq
      · refine ⟨_, g1, ⟨c, rfl⟩, g2, ?_⟩
        cases q : b.heap.get? D with
        | none => rfl
        | some o => exact absurd (inAll D o g2 (hs0.keep _ _ q)) (Nat.lt_irrefl _)
      · exact hat2.N q hq
    · simp only [List.map_cons, List.nodup_cons]
      refine ⟨fun hm => ?_, hat2.ndn⟩
      obtain ⟨q, hq, e⟩ := List.mem_map.mp hm
      obtain ⟨o, e1, _, e3, _⟩ := hs0.N q hq
      exact Nat.ne_of_lt (inAll _ _ e3 e1) e
end

-- C17
theorem zap {N l1 l2 : Nat} (e1 : l1 < N) (e2 : l2 < N) : ZipApart (N + 4) (N + 2) (N + 3) N (N + 1) l1 l2 := by
  constructor <;> (show ¬ ((_ : Nat) = (_ : Nat)); omega)
section
variable {prog : Program} {w : World} {A : Around} {E : Value → Shared → Prop} {b : Shared} {fr : Frm} {nw : Led} {Q : Value → Shared → Prop} {L : Addr} {K : Value → Shared → Prop}
theorem it_zip {elts : List Expr} {kk : Nat} {pt : Pos} {l1 l2 : Addr} {vs us : List Value} (hh : A.handled = none) (h1 : SeesL w L b fr nw l1 vs) (h2 : SeesL w L b fr nw l2 us)
    (k : Itr prog w A L b fr nw (.Tuple elts kk pt) (min vs.length us.length) (fun i v ov => ∃ vals, (∃ x y, vs[i]? = some x ∧ us[i]? = some y ∧ vals = #[x, y]) ∧ ov = some vals) K) :
    St w L b fr nw (wpAny (model prog w) A (call (.type "zip") [.ref l1, .ref l2]) (fun x => wpAny (model prog w) A (pyIter x) K E) E) := fun s hs => by
  have g1 := h1 s hs
  have g2 := h2 s hs
  refine call_zip_2 g1 g2 fun h' hz hp ho hi1 hi2 hsz hk => ?_
  have lt1 : l1 < s.heap.objs.size := let ⟨_, e, _⟩ := g1; Heap.lt_size e
  have lt2 : l2 < s.heap.objs.size := let ⟨_, e, _⟩ := g2; Heap.lt_size e
  generalize hN : s.heap.objs.size = N at *
  have ap : ZipApart (N + 4) (N + 2) (N + 3) N (N + 1) l1 l2 := zap lt1 lt2
  have W := WalksT.zip2 (prog := prog) (w := w) (A := A) hh (N + 4) (N + 2) (N + 3) N (N + 1) l1 l2 ap vs.toArray us.toArray
  have hst : IsZip h' (N + 4) (N + 2) (N + 3) .none ∧ IsPair h' (N + 2) (.ref N) (.ref (N + 1)) ∧ (∃ a b, IsPair h' (N + 3) a b) ∧ h'.IsListIter N l1 0 ∧ h'.IsListIter (N + 1) l2 0 ∧ h'.IsList l1 vs.toArray ∧ h'.IsList l2 us.toArray :=
    ⟨hz, hp, ⟨_, _, ho⟩, hi1, hi2, (let ⟨o, e, r⟩ := g1; ⟨o, hk _ _ e, r⟩), (let ⟨o, e, r⟩ := g2; ⟨o, hk _ _ e, r⟩)⟩
  have WK := Wk.ofT (elts := elts) (k := kk) (pos := pt) W (by
    rintro i h ⟨q1, q2, ⟨_, _, q3⟩, ⟨_, q4, _⟩, ⟨_, q5, _⟩, ⟨_, q6, _⟩, ⟨_, q7, _⟩⟩ x hx
    simp only [List.mem_cons, List.not_mem_nil, or_false] at hx
    rcases hx with rfl | rfl | rfl | rfl | rfl | rfl | rfl
    · exact ⟨_, q1⟩
    · exact ⟨_, q2⟩
    · exact ⟨_, q3⟩
    · exact ⟨_, q4⟩
    · exact ⟨_, q5⟩
    · exact ⟨_, q6⟩
    · exact ⟨_, q7⟩)
  refine W.self 0 _ _ _ hst ?_
  have fresh : ∀ a, N ≤ a → s.heap.get? a = none := fun a ha => by
    cases e : s.heap.get? a with
    | none => rfl
    | some o' => exact absurd (Heap.lt_size e) (by rw [hN]; exact Nat.not_lt.mpr ha)
  have key : K (.ref (N + 4)) { s with heap := h', toks := s.toks } := by
    have hsz1 : vs.toArray.size = vs.length := by simp
    have hsz2 : us.toArray.size = us.length := by simp
    rw [hsz1, hsz2] at WK
    simp only [List.getElem?_toArray] at WK
    refine k s h' s.toks (N + 4) _ _ _ hs hk WK hst ?_
    · intro x hx
      simp only [List.mem_cons, List.not_mem_nil, or_false] at hx
      rcases hx with rfl | rfl | rfl | rfl
      · exact fresh _ (Nat.le_add_right _ _)
      · exact fresh _ (Nat.le_add_right _ _)
      · exact fresh _ (Nat.le_refl _)
      · exact fresh _ (Nat.le_add_right _ _)
  exact key
end

-- F1
/-- the three signs of a figure -/
def tri (fig abv : Nat) : List Nat := [[45, 114].getD (fig / 4) 0, [45, 119].getD (fig / 2 % 2) 0, [45, 120, 83, 115].getD (fig % 2 + 2 * abv) 0]
/-- owner's and group's -/
def lrow (r : Nat) : List Nat := tri (r / 64 % 8) (r / 512 / 4 % 2) ++ tri (r / 8 % 8) (r / 512 / 2 % 2)
theorem fdiv_nat (a c : Nat) : (a : Int).fdiv (c : Int) = ((a / c : Nat) : Int) := by
  rw [Int.fdiv_eq_ediv_of_nonneg _ (by omega)]; simp
theorem fmod_nat (a c : Nat) : (a : Int).fmod (c : Int) = ((a % c : Nat) : Int) := by
  rw [Int.fmod_eq_emod_of_nonneg _ (by omega)]; simp
theorem fmod8 (a : Nat) : (a : Int).fmod 8 = ((a % 8 : Nat) : Int) := fmod_nat a 8
theorem fmod2 (a : Nat) : (a : Int).fmod 2 = ((a % 2 : Nat) : Int) := fmod_nat a 2
theorem fmod4 (a : Nat) : (a : Int).fmod 4 = ((a % 4 : Nat) : Int) := fmod_nat a 4
theorem fdiv512 (a : Nat) : (a : Int).fdiv 512 = ((a / 512 : Nat) : Int) := fdiv_nat a 512
theorem fdiv4 (a : Nat) : (a : Int).fdiv 4 = ((a / 4 : Nat) : Int) := fdiv_nat a 4
theorem fdiv2 (a : Nat) : (a : Int).fdiv 2 = ((a / 2 : Nat) : Int) := fdiv_nat a 2
theorem getD_lt {l : List Nat} {j : Nat} (h : j < l.length) : l[j]? = some (l.getD j 0) := by simp [h]
section
variable {prog : Program} {w : World} {A : Around} {E : Value → Shared → Prop} {s : Shared} {Q : Value → Shared → Prop}

abbrev frR (v1 v2 v3 v4 v5 : Option Value) : Frm := [("rights", v1), ("row", v2), ("place", v3), ("figure", v4), ("above", v5)]
theorem row_spec {r : Nat} {t : Tok} (hr : r < 4096) (ok : Ok A 1) (g : Gd w s.heap) (k : ∀ t s', Keeps s s' → Q (.str (T (lrow r)) t) s') : wpAny (model prog w) A (call (.ref 124) [.int (r : Int) t]) Q E s := by
  refine fn_enter [("rights", some (.int (r : Int) t)), ("row", none), ("place", none), ("figure", none), ("above", none)] g (by have := ok.depth; omega) (by with_unfolding_all rfl) rfl rfl (by kernel_rfl) (by with_unfolding_all rfl) (by dsimp only) (by kernel_rfl) (by kernel_rfl) (by kernel_rfl) (by walk_at "nd") (by walk_at "nd") (by kernel_rfl) ?_
  intro env hE
  have ok' := ok.deeper env
  have hh := ok'.handled
  with_reducible (refine s_cons ?_; (refine' s_Assign ?_ ?hh; (case hh => with_unfolding_all rfl)); (refine' r_strT ?ll (fun _ => ?_); (case ll => first | exact lit0 | exact lit_r | exact lit_w | exact lit_x | exact lit_wR | exact lit_q | exact lit_m)); (refine' r_store ?ee ?nn ?vv ?_; (case ee => assumption); (case nn => walk_at "has"); (case vv => walk_at "put")); refine n_next ?_; refine s_cons ?_; (refine' s_For ?_ ?hh; (case hh => (intro _; with_unfolding_all rfl))); refine r_CallN ?_; (refine' r_glob ?ee ?nn ?vv ?_; (case ee => assumption); (case nn => walk_at "has"); (case vv => walk_at "has")); (refine' r_cw_type ?_ ?hh ?gg; (case hh => with_unfolding_all rfl); (case gg => with_unfolding_all rfl)); (refine' r_args ?_ ?hh; (case hh => with_unfolding_all rfl)); refine r_int (fun _ => ?_); refine r_args_nil ?_; refine c_range1 (fun _ _ _ => ?_))
  refine f_range (n := 2) (fun i fr nw => ∃ tx p1 p2 p3, fr = frR (some (.int (r : Int) t)) (some (.str (T ((lrow r).take (3 * i))) tx)) p1 p2 p3 ∧ nw = []) hh (by omega) ⟨_, _, _, _, rfl, rfl⟩ ?_ ?_
  · rintro i fr nw b' tt hi ⟨tx, p1, p2, p3, rfl, rfl⟩ kb
    obtain ⟨d8, d2, e8, e2, h8, h2, hrow⟩ : ∃ d8 d2 : Nat, (8 : Int) ^ ((2 : Int) - (i : Nat)).toNat = d8 ∧ (2 : Int) ^ ((2 : Int) - (i : Nat)).toNat = d2 ∧ (0 < d8 ∧ d8 < 1000) ∧ (0 < d2 ∧ d2 < 1000) ∧ (lrow r).take (3 * i) ++ tri (r / d8 % 8) (r / 512 / d2 % 2) = (lrow r).take (3 * (i + 1)) := by
      have : i = 0 ∨ i = 1 := by omega
      rcases this with rfl | rfl
      · exact ⟨64, 4, rfl, rfl, by decide, by decide, rfl⟩
      · exact ⟨8, 2, rfl, rfl, by decide, by decide, rfl⟩
    have hlen : (lrow r).length = 6 := rfl
    have hfl : r / d8 % 8 < 8 := Nat.mod_lt _ (by omega)
    have hal : r / 512 / d2 % 2 < 2 := Nat.mod_lt _ (by omega)
    generalize hfg : r / d8 % 8 = fig at *
    generalize hab : r / 512 / d2 % 2 = abv at *
    with_reducible ((refine' r_store ?ee ?nn ?vv ?_; (case ee => assumption); (case nn => walk_at "has"); (case vv => walk_at "put")); refine s_cons ?_; (refine' s_Assign ?_ ?hh; (case hh => with_unfolding_all rfl)); refine r_BinOp ?_; refine r_BinOp ?_; (refine' r_loc ?ee ?nn ?vv ?_; (case ee => assumption); (case nn => walk_at "has"); (case vv => walk_at "has")); refine r_BinOp ?_; refine r_int (fun _ => ?_); refine r_BinOp ?_; refine r_int (fun _ => ?_); (refine' r_loc ?ee ?nn ?vv ?_; (case ee => assumption); (case nn => walk_at "has"); (case vv => walk_at "has")); refine i_sub (fun _ => ?_); (refine' i_pow ?ss ?uu (fun _ => ?_); (case ss => walk_at "rng"); (case uu => walk_at "rng")); (refine' i_fdiv ?ss (fun _ => ?_); (case ss => walk_at "rng")); refine r_int (fun _ => ?_); (refine' i_mod ?ss (fun _ => ?_); (case ss => walk_at "side")); (refine' r_store ?ee ?nn ?vv ?_; (case ee => assumption); (case nn => walk_at "has"); (case vv => walk_at "put")); refine n_next ?_; refine s_cons ?_; (refine' s_Assign ?_ ?hh; (case hh => with_unfolding_all rfl)); refine r_BinOp ?_; refine r_BinOp ?_; refine r_BinOp ?_; (refine' r_loc ?ee ?nn ?vv ?_; (case ee => assumption); (case nn => walk_at "has"); (case vv => walk_at "has")); refine r_int (fun _ => ?_); (refine' i_fdiv ?ss (fun _ => ?_); (case ss => walk_at "rng")); refine r_BinOp ?_; refine r_int (fun _ => ?_); refine r_BinOp ?_; refine r_int (fun _ => ?_); (refine' r_loc ?ee ?nn ?vv ?_; (case ee => assumption); (case nn => walk_at "has"); (case vv => walk_at "has")); refine i_sub (fun _ => ?_); (refine' i_pow ?ss ?uu (fun _ => ?_); (case ss => walk_at "rng"); (case uu => walk_at "rng")); (refine' i_fdiv ?ss (fun _ => ?_); (case ss => walk_at "rng")); refine r_int (fun _ => ?_); (refine' i_mod ?ss (fun _ => ?_); (case ss => walk_at "side")); (refine' r_store ?ee ?nn ?vv ?_; (case ee => assumption); (case nn => walk_at "has"); (case vv => walk_at "put")); refine n_next ?_; refine s_cons ?_; refine s_Aug ?_; (refine' r_ldn ?ee ?nn ?vv ?_; (case ee => assumption); (case nn => walk_at "has"); (case vv => walk_at "has")); refine r_BinOp ?_; refine r_BinOp ?_; refine r_Subscript ?_; (refine' r_strT ?ll (fun _ => ?_); (case ll => first | exact lit0 | exact lit_r | exact lit_w | exact lit_x | exact lit_wR | exact lit_q | exact lit_m)); refine r_BinOp ?_; (refine' r_loc ?ee ?nn ?vv ?_; (case ee => assumption); (case nn => walk_at "has"); (case vv => walk_at "has")); refine r_int (fun _ => ?_); (refine' i_fdiv ?ss (fun _ => ?_); (case ss => walk_at "rng")))
    rw [e8, e2, fdiv_nat, fmod8, hfg, fdiv512, fdiv_nat, fmod2, hab, fdiv4]
    refine x_str_item (j := fig / 4) (c := [45, 114].getD (fig / 4) 0) (by decide) (by rw [if_neg (by omega)]) (getD_lt (by simp; omega)) (fun _ => ?_)
    with_reducible (refine r_Subscript ?_; (refine' r_strT ?ll (fun _ => ?_); (case ll => first | exact lit0 | exact lit_r | exact lit_w | exact lit_x | exact lit_wR | exact lit_q | exact lit_m)); refine r_BinOp ?_; refine r_BinOp ?_; (refine' r_loc ?ee ?nn ?vv ?_; (case ee => assumption); (case nn => walk_at "has"); (case vv => walk_at "has")); refine r_int (fun _ => ?_); (refine' i_fdiv ?ss (fun _ => ?_); (case ss => walk_at "rng")); refine r_int (fun _ => ?_); (refine' i_mod ?ss (fun _ => ?_); (case ss => walk_at "side")))
    rw [fdiv2, fmod2]
    refine x_str_item (j := fig / 2 % 2) (c := [45, 119].getD (fig / 2 % 2) 0) (by decide) (by rw [if_neg (by omega)]) (getD_lt (by simp; omega)) (fun _ => ?_)
    with_reducible ((refine' i_cat ?ss (fun _ => ?_); (case ss => walk_at "side")); refine r_Subscript ?_; (refine' r_strT ?ll (fun _ => ?_); (case ll => first | exact lit0 | exact lit_r | exact lit_w | exact lit_x | exact lit_wR | exact lit_q | exact lit_m)); refine r_BinOp ?_; refine r_BinOp ?_; (refine' r_loc ?ee ?nn ?vv ?_; (case ee => assumption); (case nn => walk_at "has"); (case vv => walk_at "has")); refine r_int (fun _ => ?_); (refine' i_mod ?ss (fun _ => ?_); (case ss => walk_at "side")); refine r_BinOp ?_; refine r_int (fun _ => ?_); (refine' r_loc ?ee ?nn ?vv ?_; (case ee => assumption); (case nn => walk_at "has"); (case vv => walk_at "has")); (refine' i_mul ?ss (fun _ => ?_); (case ss => walk_at "rng")); refine i_add (fun _ => ?_))
    rw [fmod2]
    refine x_str_item (j := fig % 2 + 2 * abv) (c := [45, 120, 83, 115].getD (fig % 2 + 2 * abv) 0) (by decide) (by rw [if_neg (by omega)]; push_cast; rfl) (getD_lt (by simp; omega)) (fun _ => ?_)
    with_reducible ((refine' i_cat ?ss (fun _ => ?_); (case ss => walk_at "side")); (refine' i_icat ?ss (fun _ => ?_); (case ss => walk_at "side")); (refine' r_store ?ee ?nn ?vv ?_; (case ee => assumption); (case nn => walk_at "has"); (case vv => walk_at "put")); refine n_next ?_; refine s_nil ?_)
    rw [← hrow]
    exact lk_next ⟨_, _, _, _, rfl, rfl⟩
  · rintro fr nw ⟨tx, p1, p2, p3, rfl, rfl⟩
    with_reducible (refine s_nil ?_; refine n_next ?_; refine s_cons ?_; refine s_Return ?_; (refine' r_loc ?ee ?nn ?vv ?_; (case ee => assumption); (case nn => walk_at "has"); (case vv => walk_at "has")); refine n_ret ?_)
    exact fun s' h' => k _ _ h'.toKeeps
theorem row_call {L : Addr} {b : Shared} {fr : Frm} {nw : Led} {r : Nat} {t : Tok} (hr : r < 4096) (ok : Ok A 1) (h : ∀ t, St w L b fr nw (Q (.str (T (lrow r)) t))) : St w L b fr nw (wpAny (model prog w) A (call (.ref 124) [.int (r : Int) t]) Q E) := fun s hs => row_spec hr ok hs.gds fun t s' k => h t s' (hs.keeps k)
end

-- F2
theorem pySl_mem {α : Type} {l : List α} {lo hi : Option Int} {c : α} (h : c ∈ pySl l lo hi) : c ∈ l := List.mem_of_mem_take (List.mem_of_mem_drop h)
theorem up1_lt {c : Nat} (h : c < 128) : up1 c < 128 := by unfold up1; split <;> omega
/-- what a put-in sign adds at most -/
theorem pySl_ins {α : Type} (l : List α) (p : Nat) (hp : p ≤ l.length) : (pySl l none (some (p : Int))).length + (pySl l (some (p : Int)) none).length = l.length := by
  rw [pySl_to, pySl_from]; simp; omega
theorem pySl_cut {α : Type} (l : List α) (p : Nat) (hp : p ≤ l.length) : (pySl l none (some (p : Int))).length + (pySl l (some (p + 1 : Int)) none).length ≤ l.length := by
  have e : (p + 1 : Int) = ((p + 1 : Nat) : Int) := by push_cast; rfl
  rw [e, pySl_to, pySl_from]; simp; omega
theorem pySl_one {α : Type} (l : List α) (p : Nat) : (pySl l (some (p : Int)) (some (p + 1 : Int))).length ≤ 1 := by
  unfold pySl clipLo clipHi
  simp
  have e : ¬ ((p : Int) + 1 < 0) := by omega
  simp [e]
  omega
theorem ints_at : ∀ {vs : List Value} {xs : List Int} {i : Nat} {v : Value}, IntsAre vs xs → vs[i]? = some v → ∃ x t, v = .int x t
  | _, _, i, v, .nil, h => by simp at h
  | _, _, 0, v, .cons n t r, h => by simp at h; exact ⟨n, t, h.symm⟩
  | _, _, i + 1, v, .cons n t r, h => ints_at r (by simpa using h)
section
variable {prog : Program} {w : World} {A : Around} {E : Value → Shared → Prop} {s : Shared} {Q : Value → Shared → Prop}

abbrev frT (v1 v2 v3 v4 v5 : Option Value) : Frm := [("row", v1), ("faults", v2), ("turn", v3), ("x", v4), ("place", v5)]
theorem typed_spec {l : List Nat} {t : Tok} {fa : Addr} {vs : List Value} {xs : List Int} (hl : l.length < 100) (hc : ∀ c ∈ l, c < 128) (hx : xs.length < 100) (hI : IntsAre vs xs) (hL : s.heap.IsList fa vs.toArray) (ok : Ok A 1) (g : Gd w s.heap)
    (k : ∀ l' t s', (∀ c ∈ l', c < 128) → l'.length ≤ l.length + xs.length → Keeps s s' → Q (.str (T l') t) s') : wpAny (model prog w) A (call (.ref 117) [.str (T l) t, .ref fa]) Q E s := by
  refine fn_enter [("row", some (.str (T l) t)), ("faults", some (.ref fa)), ("turn", none), ("x", none), ("place", none)] g (by have := ok.depth; omega) (by with_unfolding_all rfl) rfl rfl (by kernel_rfl) (by with_unfolding_all rfl) (by dsimp only) (by kernel_rfl) (by kernel_rfl) (by kernel_rfl) (by walk_at "nd") (by walk_at "nd") (by kernel_rfl) ?_
  intro env hE
  have ok' := ok.deeper env
  have hh := ok'.handled
  have hlen := hI.length
  with_reducible (refine s_cons ?_; (refine' s_For ?_ ?hh; (case hh => (intro _; with_unfolding_all rfl))); refine r_CallN ?_; (refine' r_glob ?ee ?nn ?vv ?_; (case ee => assumption); (case nn => walk_at "has"); (case vv => walk_at "has")); (refine' r_cw_type ?_ ?hh ?gg; (case hh => with_unfolding_all rfl); (case gg => with_unfolding_all rfl)); (refine' r_args ?_ ?hh; (case hh => with_unfolding_all rfl)); (refine' r_loc ?ee ?nn ?vv ?_; (case ee => assumption); (case nn => walk_at "has"); (case vv => walk_at "has")); refine r_args_nil ?_)
  refine f_enum hh hL (fun i fr nw => ∃ l' tx p1 p2 p3, fr = frT (some (.str (T l') tx)) (some (.ref fa)) p1 p2 p3 ∧ nw = [] ∧ (∀ c ∈ l', c < 128) ∧ l'.length ≤ l.length + i) ⟨l, _, _, _, _, rfl, rfl, hc, by omega⟩ ?_ ?_
  · rintro i v T' tt fr nw b' hv hT ⟨l', tx, p1, p2, p3, rfl, rfl, hc', hl'⟩ kb
    have hiv : i < vs.length := (List.getElem?_eq_some_iff.mp hv).1
    obtain ⟨x, tn, rfl⟩ := ints_at hI hv
    refine a_Tup2 hh (seesT_b hT) ?_
    with_reducible ((refine' r_store ?ee ?nn ?vv ?_; (case ee => assumption); (case nn => walk_at "has"); (case vv => walk_at "put")); (refine' r_store ?ee ?nn ?vv ?_; (case ee => assumption); (case nn => walk_at "has"); (case vv => walk_at "put")); refine s_cons ?_; (refine' s_Assign ?_ ?hh; (case hh => with_unfolding_all rfl)); refine r_BinOp ?_; refine r_BinOp ?_; (refine' r_loc ?ee ?nn ?vv ?_; (case ee => assumption); (case nn => walk_at "has"); (case vv => walk_at "has")); refine r_int (fun _ => ?_); (refine' i_fdiv ?ss (fun _ => ?_); (case ss => walk_at "rng")); refine r_BinOp ?_; refine r_CallN ?_; (refine' r_glob ?ee ?nn ?vv ?_; (case ee => assumption); (case nn => walk_at "has"); (case vv => walk_at "has")); (refine' r_cw_builtin ?_ ?hh ?gg; (case hh => with_unfolding_all rfl); (case gg => with_unfolding_all rfl)); (refine' r_args ?_ ?hh; (case hh => with_unfolding_all rfl)); (refine' r_loc ?ee ?nn ?vv ?_; (case ee => assumption); (case nn => walk_at "has"); (case vv => walk_at "has")); refine r_args_nil ?_; (refine' c_len_str ?ss (fun _ => ?_); (case ss => walk_at "side")); refine r_int (fun _ => ?_); refine i_add (fun _ => ?_); (refine' i_mod ?ss (fun _ => ?_); (case ss => walk_at "side")); (refine' r_store ?ee ?nn ?vv ?_; (case ee => assumption); (case nn => walk_at "has"); (case vv => walk_at "put")); refine n_next ?_; refine s_cons ?_)
    obtain ⟨p, hp, hpl⟩ : ∃ p : Nat, (x.fdiv 4).fmod ((l'.length : Int) + 1) = p ∧ p ≤ l'.length := by
      have h1 := Int.fmod_nonneg_of_pos (x.fdiv 4) (b := (l'.length : Int) + 1) (by omega)
      have h2 := Int.fmod_lt_of_pos (x.fdiv 4) (b := (l'.length : Int) + 1) (by omega)
      exact ⟨_, (Int.toNat_of_nonneg h1).symm, by omega⟩
    rw [hp]
    have e1 := pySl_ins l' p hpl
    have e2 := pySl_cut l' p hpl
    have e3 := pySl_one l' p
    have m1 : ∀ c ∈ pySl l' none (some (p : Int)), c < 128 := fun c h => hc' c (pySl_mem h)
    have m2 : ∀ c ∈ pySl l' (some (p + 1 : Int)) none, c < 128 := fun c h => hc' c (pySl_mem h)
    have m3 : ∀ c ∈ pySl l' (some (p : Int)) none, c < 128 := fun c h => hc' c (pySl_mem h)
    have m4 : ∀ c ∈ pySl l' (some (p : Int)) (some (p + 1 : Int)), c < 128 := fun c h => hc' c (pySl_mem h)
    refine s_If ?_
    with_reducible ((refine' t_Compare ?_ ?hh; (case hh => with_unfolding_all rfl)); refine r_BinOp ?_; (refine' r_loc ?ee ?nn ?vv ?_; (case ee => assumption); (case nn => walk_at "has"); (case vv => walk_at "has")); refine r_int (fun _ => ?_); (refine' i_mod ?ss (fun _ => ?_); (case ss => walk_at "side")); refine r_int (fun _ => ?_); refine i_eq ?_; refine t_bool ?_)
    refine r_if (fun _ => ?_) (fun _ => ?_)
    · with_reducible (refine s_cons ?_; (refine' s_Assign ?_ ?hh; (case hh => with_unfolding_all rfl)); refine r_BinOp ?_; refine r_Subscript ?_; (refine' r_loc ?ee ?nn ?vv ?_; (case ee => assumption); (case nn => walk_at "has"); (case vv => walk_at "has")); refine r_Slice ?_; refine r_part0 ?_; refine r_part ?_; (refine' r_loc ?ee ?nn ?vv ?_; (case ee => assumption); (case nn => walk_at "has"); (case vv => walk_at "has")); refine r_SlK (fun _ => ?_); (refine' x_sl_ns ?ss (fun _ => ?_) ?hh; (case ss => walk_at "side"); (case hh => with_unfolding_all rfl)); refine r_Subscript ?_; (refine' r_loc ?ee ?nn ?vv ?_; (case ee => assumption); (case nn => walk_at "has"); (case vv => walk_at "has")); refine r_Slice ?_; refine r_part ?_; refine r_BinOp ?_; (refine' r_loc ?ee ?nn ?vv ?_; (case ee => assumption); (case nn => walk_at "has"); (case vv => walk_at "has")); refine r_int (fun _ => ?_); refine i_add (fun _ => ?_); refine r_part0 ?_; refine r_SlK (fun _ => ?_); (refine' x_sl_sn ?ss (fun _ => ?_) ?hh; (case ss => walk_at "side"); (case hh => with_unfolding_all rfl)); (refine' i_cat ?ss (fun _ => ?_); (case ss => walk_at "side")); (refine' r_store ?ee ?nn ?vv ?_; (case ee => assumption); (case nn => walk_at "has"); (case vv => walk_at "put")); refine n_next ?_; refine s_nil ?_; refine n_next ?_; refine s_nil ?_)
      refine lk_next ⟨_, _, _, _, _, rfl, rfl, fun c h => ?_, ?_⟩
      · rcases List.mem_append.mp h with h | h
        · exact m1 c h
        · exact m2 c h
      · rw [List.length_append]; omega
    · refine s_cons ?_
      refine s_If ?_
      with_reducible ((refine' t_Compare ?_ ?hh; (case hh => with_unfolding_all rfl)); refine r_BinOp ?_; (refine' r_loc ?ee ?nn ?vv ?_; (case ee => assumption); (case nn => walk_at "has"); (case vv => walk_at "has")); refine r_int (fun _ => ?_); (refine' i_mod ?ss (fun _ => ?_); (case ss => walk_at "side")); refine r_int (fun _ => ?_); refine i_eq ?_; refine t_bool ?_)
      refine r_if (fun _ => ?_) (fun _ => ?_)
      · with_reducible (refine s_cons ?_; (refine' s_Assign ?_ ?hh; (case hh => with_unfolding_all rfl)); refine r_BinOp ?_; refine r_BinOp ?_; refine r_Subscript ?_; (refine' r_loc ?ee ?nn ?vv ?_; (case ee => assumption); (case nn => walk_at "has"); (case vv => walk_at "has")); refine r_Slice ?_; refine r_part0 ?_; refine r_part ?_; (refine' r_loc ?ee ?nn ?vv ?_; (case ee => assumption); (case nn => walk_at "has"); (case vv => walk_at "has")); refine r_SlK (fun _ => ?_); (refine' x_sl_ns ?ss (fun _ => ?_) ?hh; (case ss => walk_at "side"); (case hh => with_unfolding_all rfl)); refine r_Subscript ?_; (refine' r_strT ?ll (fun _ => ?_); (case ll => first | exact lit0 | exact lit_r | exact lit_w | exact lit_x | exact lit_wR | exact lit_q | exact lit_m)); refine r_BinOp ?_; (refine' r_loc ?ee ?nn ?vv ?_; (case ee => assumption); (case nn => walk_at "has"); (case vv => walk_at "has")); refine r_int (fun _ => ?_); (refine' i_mod ?ss (fun _ => ?_); (case ss => walk_at "side")))
        have e5 : (i : Int).fmod 2 = ((i % 2 : Nat) : Int) := by rw [Int.fmod_eq_emod_of_nonneg _ (by omega)]; simp
        rw [e5]
        obtain ⟨c0, hc0, hc1⟩ : ∃ c0, ([119, 82] : List Nat)[i % 2]? = some c0 ∧ c0 < 128 := by
          rcases Nat.mod_two_eq_zero_or_one i with h | h <;> rw [h]
          · exact ⟨119, rfl, by decide⟩
          · exact ⟨82, rfl, by decide⟩
        refine x_str_item (j := i % 2) (c := c0) (by decide) (by rw [if_neg (by omega)]) hc0 (fun _ => ?_)
        with_reducible ((refine' i_cat ?ss (fun _ => ?_); (case ss => walk_at "side")); refine r_Subscript ?_; (refine' r_loc ?ee ?nn ?vv ?_; (case ee => assumption); (case nn => walk_at "has"); (case vv => walk_at "has")); refine r_Slice ?_; refine r_part ?_; (refine' r_loc ?ee ?nn ?vv ?_; (case ee => assumption); (case nn => walk_at "has"); (case vv => walk_at "has")); refine r_part0 ?_; refine r_SlK (fun _ => ?_); (refine' x_sl_sn ?ss (fun _ => ?_) ?hh; (case ss => walk_at "side"); (case hh => with_unfolding_all rfl)); (refine' i_cat ?ss (fun _ => ?_); (case ss => walk_at "side")); (refine' r_store ?ee ?nn ?vv ?_; (case ee => assumption); (case nn => walk_at "has"); (case vv => walk_at "put")); refine n_next ?_; refine s_nil ?_; refine n_next ?_; refine s_nil ?_; refine n_next ?_; refine s_nil ?_)
        refine lk_next ⟨_, _, _, _, _, rfl, rfl, fun c h => ?_, ?_⟩
        · rcases List.mem_append.mp h with h | h
          · rcases List.mem_append.mp h with h | h
            · exact m1 c h
            · rw [List.mem_singleton.mp h]; exact hc1
          · exact m3 c h
        · rw [List.length_append, List.length_append, List.length_singleton]; omega
      · refine s_cons ?_
        refine s_If ?_
        with_reducible ((refine' t_Compare ?_ ?hh; (case hh => with_unfolding_all rfl)); refine r_BinOp ?_; (refine' r_loc ?ee ?nn ?vv ?_; (case ee => assumption); (case nn => walk_at "has"); (case vv => walk_at "has")); refine r_int (fun _ => ?_); (refine' i_mod ?ss (fun _ => ?_); (case ss => walk_at "side")); refine r_int (fun _ => ?_); refine i_eq ?_; refine t_bool ?_)
        refine r_if (fun _ => ?_) (fun _ => ?_)
        · with_reducible (refine s_cons ?_; (refine' s_Assign ?_ ?hh; (case hh => with_unfolding_all rfl)); refine r_BinOp ?_; refine r_BinOp ?_; refine r_Subscript ?_; (refine' r_loc ?ee ?nn ?vv ?_; (case ee => assumption); (case nn => walk_at "has"); (case vv => walk_at "has")); refine r_Slice ?_; refine r_part0 ?_; refine r_part ?_; (refine' r_loc ?ee ?nn ?vv ?_; (case ee => assumption); (case nn => walk_at "has"); (case vv => walk_at "has")); refine r_SlK (fun _ => ?_); (refine' x_sl_ns ?ss (fun _ => ?_) ?hh; (case ss => walk_at "side"); (case hh => with_unfolding_all rfl)); (refine' r_Meth ?_ ?hh; (case hh => with_unfolding_all rfl)); refine r_Subscript ?_; (refine' r_loc ?ee ?nn ?vv ?_; (case ee => assumption); (case nn => walk_at "has"); (case vv => walk_at "has")); refine r_Slice ?_; refine r_part ?_; (refine' r_loc ?ee ?nn ?vv ?_; (case ee => assumption); (case nn => walk_at "has"); (case vv => walk_at "has")); refine r_part ?_; refine r_BinOp ?_; (refine' r_loc ?ee ?nn ?vv ?_; (case ee => assumption); (case nn => walk_at "has"); (case vv => walk_at "has")); refine r_int (fun _ => ?_); refine i_add (fun _ => ?_); refine r_SlK (fun _ => ?_); (refine' x_sl_ss ?ss (fun _ => ?_) ?hh; (case ss => walk_at "side"); (case hh => with_unfolding_all rfl)); refine m_upper ?_; refine r_mc ?_; refine r_cw_meth0 ?_; (refine' c_upper ?ss ?aa (fun _ => ?_); (case ss => walk_at "side"); (case aa => walk_at "ascii")); (refine' i_cat ?ss (fun _ => ?_); (case ss => walk_at "side")); refine r_Subscript ?_; (refine' r_loc ?ee ?nn ?vv ?_; (case ee => assumption); (case nn => walk_at "has"); (case vv => walk_at "has")); refine r_Slice ?_; refine r_part ?_; refine r_BinOp ?_; (refine' r_loc ?ee ?nn ?vv ?_; (case ee => assumption); (case nn => walk_at "has"); (case vv => walk_at "has")); refine r_int (fun _ => ?_); refine i_add (fun _ => ?_); refine r_part0 ?_; refine r_SlK (fun _ => ?_); (refine' x_sl_sn ?ss (fun _ => ?_) ?hh; (case ss => walk_at "side"); (case hh => with_unfolding_all rfl)); (refine' i_cat ?ss (fun _ => ?_); (case ss => walk_at "side")); (refine' r_store ?ee ?nn ?vv ?_; (case ee => assumption); (case nn => walk_at "has"); (case vv => walk_at "put")); refine n_next ?_; refine s_nil ?_; refine n_next ?_; refine s_nil ?_; refine n_next ?_; refine s_nil ?_; refine n_next ?_; refine s_nil ?_)
          refine lk_next ⟨_, _, _, _, _, rfl, rfl, fun c h => ?_, ?_⟩
          · rcases List.mem_append.mp h with h | h
            · rcases List.mem_append.mp h with h | h
              · exact m1 c h
              · obtain ⟨d, hd, rfl⟩ := List.mem_map.mp h
                exact up1_lt (m4 d hd)
            · exact m2 c h
          · rw [List.length_append, List.length_append, List.length_map]; omega
        · with_reducible (refine s_nil ?_; refine n_next ?_; refine s_nil ?_; refine n_next ?_; refine s_nil ?_; refine n_next ?_; refine s_nil ?_)
          exact lk_next ⟨_, _, _, _, _, rfl, rfl, hc', by omega⟩
  · rintro fr nw ⟨l', tx, p1, p2, p3, rfl, rfl, hc', hl'⟩
    with_reducible (refine s_nil ?_; refine n_next ?_; refine s_cons ?_; refine s_Return ?_; (refine' r_loc ?ee ?nn ?vv ?_; (case ee => assumption); (case nn => walk_at "has"); (case vv => walk_at "has")); refine n_ret ?_)
    exact fun s' h' => k _ _ _ hc' (by omega) h'.toKeeps
theorem typed_call {L : Addr} {b : Shared} {fr : Frm} {nw : Led} {l : List Nat} {t : Tok} {fa : Addr} {vs : List Value} {xs : List Int} (hl : l.length < 100) (hc : ∀ c ∈ l, c < 128) (hx : xs.length < 100) (hI : IntsAre vs xs) (hL : SeesL w L b fr nw fa vs) (ok : Ok A 1)
    (k : ∀ l' t, (∀ c ∈ l', c < 128) → l'.length ≤ l.length + xs.length → St w L b fr nw (Q (.str (T l') t))) : St w L b fr nw (wpAny (model prog w) A (call (.ref 117) [.str (T l) t, .ref fa]) Q E) := fun s hs =>
  typed_spec hl hc hx hI (hL s hs) ok hs.gds fun l' t s' h1 h2 kk => k l' t h1 h2 s' (hs.keeps kk)
end

-- F4a
/-- rows of a table -/
abbrev rowsLed (rs : List (Addr × List Value)) : Led := rs.map fun p => (p.1, .list p.2)
abbrev rowsRef (rs : List (Addr × List Value)) : List Value := rs.map fun p => .ref p.1
/-- each row holds these numbers -/
def RowsOk (rs : List (Addr × List Value)) (m : Nat) (g : Nat → Nat → Int) : Prop := ∀ i p, rs[i]? = some p → IntsAre p.2 ((List.range m).map (g i))
/-- the table, so far -/
def tabF (f : Nat → Nat → Int) (i j a c : Nat) : Int := if a ≤ i ∨ (a = i + 1 ∧ c ≤ j) then cell f a c else 2 * ((a : Int) + c)
theorem tabF_start (f : Nat → Nat → Int) (a c : Nat) : tabF f 0 0 a c = 2 * ((a : Int) + c) := by
  unfold tabF
  split
  · rename_i h
    rcases h with h | ⟨h1, h2⟩
    · have : a = 0 := by omega
      subst this; rw [cell_zero]; omega
    · have : c = 0 := by omega
      subst this; rw [cell_col]; omega
  · rfl
theorem tabF_next {f : Nat → Nat → Int} {i m a c : Nat} (hc : c ≤ m) : tabF f i m a c = tabF f (i + 1) 0 a c := by
  unfold tabF
  by_cases h : a ≤ i + 1
  · rw [if_pos (by omega), if_pos (by omega)]
  · rw [if_neg (by omega)]
    split
    · have : c = 0 := by omega
      subst this; rw [cell_col]; omega
    · rfl
theorem tabF_other {f : Nat → Nat → Int} {i j a : Nat} (h : a ≠ i + 1) : tabF f i (j + 1) a = tabF f i j a := by
  funext c
  unfold tabF
  by_cases h2 : a ≤ i
  · rw [if_pos (by omega), if_pos (by omega)]
  · rw [if_neg (by omega), if_neg (by omega)]
theorem tabF_set {f : Nat → Nat → Int} {i j m : Nat} (h : j + 1 < m) : ((List.range m).map (tabF f i j (i + 1))).set (j + 1) (cell f (i + 1) (j + 1)) = (List.range m).map (tabF f i (j + 1) (i + 1)) := by
  apply List.ext_getElem?
  intro c
  rw [List.getElem?_set]
  by_cases hc : c < m
  · by_cases e : j + 1 = c
    · subst e
      simp [h, tabF]
    · rw [if_neg e]
      simp only [List.getElem?_map, List.getElem?_range hc, Option.map_some]
      congr 1
      unfold tabF
      by_cases h2 : c ≤ j
      · rw [if_pos (by omega), if_pos (by omega)]
      · rw [if_neg (by omega), if_neg (by omega)]
  · rw [if_neg (by omega), List.getElem?_eq_none (by simp; omega), List.getElem?_eq_none (by simp; omega)]
theorem rowsRef_get {rs : List (Addr × List Value)} {z : Int} {k : Nat} {p : Addr × List Value} (hz : z = k) (h : rs[k]? = some p) : (rowsRef rs)[z.toNat]? = some (.ref p.1) := by
  subst hz
  simp [rowsRef, h]
theorem rowsRef_set {rs : List (Addr × List Value)} {k : Nat} {p : Addr × List Value} {vs : List Value} (h : rs[k]? = some p) : rowsRef (rs.set k (p.1, vs)) = rowsRef rs := by
  unfold rowsRef
  apply List.ext_getElem?
  intro c
  simp only [List.getElem?_map, List.getElem?_set]
  split
  · rename_i e
    subst e
    have := (List.getElem?_eq_some_iff.mp h).1
    rw [if_pos this, h]; rfl
  · rfl
theorem row_int {rs : List (Addr × List Value)} {m k c : Nat} {g : Nat → Nat → Int} {p : Addr × List Value} {z : Int} (h : RowsOk rs m g) (hp : rs[k]? = some p) (hc : c < m) (hz : z = c) : ∃ t, p.2[z.toNat]? = some (.int (g k c) t) := by
  subst hz
  exact (h k p hp).get c _ (by simp [hc])
theorem has_row {rs : List (Addr × List Value)} {k : Nat} {p : Addr × List Value} {rest : Led} (h : rs[k]? = some p) : Has (rowsLed rs ++ rest) p.1 (.list p.2) := by
  have : (p.1, D.list p.2) ∈ rowsLed rs := List.mem_map.mpr ⟨p, List.mem_of_getElem? h, rfl⟩
  exact has_app_l (has_of this)
theorem put_row {rest : Led} {vs : List Value} : ∀ {rs : List (Addr × List Value)} {k : Nat} {p : Addr × List Value}, rs[k]? = some p → Put (rowsLed rs ++ rest) p.1 (.list vs) (rowsLed (rs.set k (p.1, vs)) ++ rest)
  | [], k, p, h => by simp at h
  | q :: r, 0, p, h => by simp at h; subst h; exact .here
  | q :: r, k + 1, p, h => .there (put_row (rs := r) (k := k) (by simpa using h))
section
variable {prog : Program} {w : World} {A : Around} {E : Value → Shared → Prop} {s : Shared} {Q : Value → Shared → Prop}

abbrev nsC : List (Str × NameKind) := [("one", .local), ("two", .cell), ("i", .local), ("j", .local), ("table", .local), ("change", .local), ("range", .globalImplicit), ("len", .globalImplicit), ("min", .globalImplicit)]
abbrev frC (v1 v3 v4 v5 v6 : Option Value) : Frm := [("one", v1), ("i", v3), ("j", v4), ("table", v5), ("change", v6)]
theorem cost_loops {env : Env} {D : Addr} {x y : List Nat} {t u : Tok} {rs : List (Addr × List Value)} (ha : ∀ c ∈ x, c < 128) (hb : ∀ c ∈ y, c < 128) (hla : x.length ≤ 20) (hlb : y.length ≤ 20) (hE : EnvOk env nsC) (hcs : env.cells = [(Str.ofString "two", env.locals + 1)]) (hh : A.handled = none)
    (hrl : rs.length = x.length + 1) (hrs : RowsOk rs (y.length + 1) (fun a c => 2 * ((a : Int) + c)))
    (k : ∀ t s', Keeps s s' → Q (.int (dist x y) t) s') :
    St w env.locals s (frC (some (.str (T x) t)) none none (some (.ref D)) none) ((D, .list (rowsRef rs)) :: (rowsLed rs ++ [(env.locals + 1, .cell (some (.str (T y) u)))])) (wpAny (model prog w) A (execs ((bodyOf 129).drop 1) env) (fun fl s' => Q (match fl with | .ret v => v | _ => .none) s') FF) := by
  with_unfolding_all show St _ _ _ _ _ (wpAny _ _ (execs (_ :: _) _) _ _)
  with_reducible (refine s_cons ?_; (refine' s_For ?_ ?hh; (case hh => (intro _; with_unfolding_all rfl))); refine r_CallN ?_; (refine' r_glob ?ee ?nn ?vv ?_; (case ee => assumption); (case nn => walk_at "has"); (case vv => walk_at "has")); (refine' r_cw_type ?_ ?hh ?gg; (case hh => with_unfolding_all rfl); (case gg => with_unfolding_all rfl)); (refine' r_args ?_ ?hh; (case hh => with_unfolding_all rfl)); refine r_CallN ?_; (refine' r_glob ?ee ?nn ?vv ?_; (case ee => assumption); (case nn => walk_at "has"); (case vv => walk_at "has")); (refine' r_cw_builtin ?_ ?hh ?gg; (case hh => with_unfolding_all rfl); (case gg => with_unfolding_all rfl)); (refine' r_args ?_ ?hh; (case hh => with_unfolding_all rfl)); (refine' r_loc ?ee ?nn ?vv ?_; (case ee => assumption); (case nn => walk_at "has"); (case vv => walk_at "has")); refine r_args_nil ?_; (refine' c_len_str ?ss (fun _ => ?_); (case ss => walk_at "side")); refine r_args_nil ?_; refine c_range1 (fun _ _ _ => ?_))
  have hrs0 : RowsOk rs (y.length + 1) (tabF (lf x y) 0 0) := by
    intro i p hp
    have := hrs i p hp
    have e : (fun c : Nat => 2 * ((i : Int) + c)) = tabF (lf x y) 0 0 i := by funext c; rw [tabF_start]
    rw [← e]; exact this
  refine f_range (n := x.length) (fun i fr nw => ∃ rs v3 v4 v6, fr = frC (some (.str (T x) t)) v3 v4 (some (.ref D)) v6 ∧ nw = (D, .list (rowsRef rs)) :: (rowsLed rs ++ [(env.locals + 1, .cell (some (.str (T y) u)))]) ∧ rs.length = x.length + 1 ∧ RowsOk rs (y.length + 1) (tabF (lf x y) i 0)) hh (by omega) ⟨rs, _, _, _, rfl, rfl, hrl, hrs0⟩ ?_ ?_
  · rintro i fr nw b' ti hi ⟨rs, v3, v4, v6, rfl, rfl, hrl, hrs⟩ kb
    with_reducible ((refine' r_store ?ee ?nn ?vv ?_; (case ee => assumption); (case nn => walk_at "has"); (case vv => walk_at "put")); refine s_cons ?_; (refine' s_For ?_ ?hh; (case hh => (intro _; with_unfolding_all rfl))); refine r_CallN ?_; (refine' r_glob ?ee ?nn ?vv ?_; (case ee => assumption); (case nn => walk_at "has"); (case vv => walk_at "has")); (refine' r_cw_type ?_ ?hh ?gg; (case hh => with_unfolding_all rfl); (case gg => with_unfolding_all rfl)); (refine' r_args ?_ ?hh; (case hh => with_unfolding_all rfl)); refine r_CallN ?_; (refine' r_glob ?ee ?nn ?vv ?_; (case ee => assumption); (case nn => walk_at "has"); (case vv => walk_at "has")); (refine' r_cw_builtin ?_ ?hh ?gg; (case hh => with_unfolding_all rfl); (case gg => with_unfolding_all rfl)); (refine' r_args ?_ ?hh; (case hh => with_unfolding_all rfl)); (refine' r_cel ?ee ?nn ?cc ?hc ?nd ?vv ?_; (case ee => assumption); (case nn => walk_at "has"); (case cc => assumption); (case hc => walk_at "has"); (case nd => walk_at "nd"); (case vv => walk_at "seesc")); refine r_args_nil ?_; (refine' c_len_str ?ss (fun _ => ?_); (case ss => walk_at "side")); refine r_args_nil ?_; refine c_range1 (fun _ _ _ => ?_))
    refine f_range (n := y.length) (fun j fr nw => ∃ rs v4 v6, fr = frC (some (.str (T x) t)) (some (.int i ti)) v4 (some (.ref D)) v6 ∧ nw = (D, .list (rowsRef rs)) :: (rowsLed rs ++ [(env.locals + 1, .cell (some (.str (T y) u)))]) ∧ rs.length = x.length + 1 ∧ RowsOk rs (y.length + 1) (tabF (lf x y) i j)) hh (by omega) ⟨rs, _, _, rfl, rfl, hrl, hrs⟩ ?_ ?_
    · rintro j fr nw b'' tj hj ⟨rs, v4, v6, rfl, rfl, hrl, hrs⟩ kb'
      obtain ⟨c, hc⟩ : ∃ c, x[i]? = some c := ⟨_, List.getElem?_eq_getElem hi⟩
      obtain ⟨d, hd⟩ : ∃ d, y[j]? = some d := ⟨_, List.getElem?_eq_getElem hj⟩
      have hc1 : c < 128 := ha c (List.mem_of_getElem? hc)
      have hd1 : d < 128 := hb d (List.mem_of_getElem? hd)
      have hf : lf x y i j = sub1 c d := by simp [lf, hc, hd]
      refine r_store hE (by walk_at "has") (by walk_at "put") ?_
      refine s_cons ?_
      refine n_cut (fun fr nw => ∃ tc, fr = frC (some (.str (T x) t)) (some (.int i ti)) (some (.int j tj)) (some (.ref D)) (some (.int (sub1 c d) tc)) ∧ nw = (D, .list (rowsRef rs)) :: (rowsLed rs ++ [(env.locals + 1, .cell (some (.str (T y) u)))])) ?_ ?_
      · with_reducible ((refine' s_Assign ?_ ?hh; (case hh => with_unfolding_all rfl)); refine r_IfExp ?_; (refine' t_Compare ?_ ?hh; (case hh => with_unfolding_all rfl)); refine r_Subscript ?_; (refine' r_loc ?ee ?nn ?vv ?_; (case ee => assumption); (case nn => walk_at "has"); (case vv => walk_at "has")); (refine' r_loc ?ee ?nn ?vv ?_; (case ee => assumption); (case nn => walk_at "has"); (case vv => walk_at "has")))
        refine x_str_item (j := i) (c := c) (by omega) (by rw [if_neg (by omega)]) hc (fun _ => ?_)
        with_reducible (refine r_Subscript ?_; (refine' r_cel ?ee ?nn ?cc ?hc ?nd ?vv ?_; (case ee => assumption); (case nn => walk_at "has"); (case cc => assumption); (case hc => walk_at "has"); (case nd => walk_at "nd"); (case vv => walk_at "seesc")); (refine' r_loc ?ee ?nn ?vv ?_; (case ee => assumption); (case nn => walk_at "has"); (case vv => walk_at "has")))
        refine x_str_item (j := j) (c := d) (by omega) (by rw [if_neg (by omega)]) hd (fun _ => ?_)
        with_reducible (refine i_seq ?_; refine t_bool ?_)
        refine r_if (fun h => ?_) (fun h => ?_)
        · have e : sub1 c d = 0 := by simp only [decide_eq_true_eq, T_inj] at h; simp [sub1] at h ⊢; omega
          with_reducible (refine r_int (fun _ => ?_); (refine' r_store ?ee ?nn ?vv ?_; (case ee => assumption); (case nn => walk_at "has"); (case vv => walk_at "put")))
          exact ck_next ⟨_, by rw [e], rfl⟩ (Keeps.rfl' _)
        · with_reducible (refine r_IfExp ?_; (refine' t_Compare ?_ ?hh; (case hh => with_unfolding_all rfl)); (refine' r_Meth ?_ ?hh; (case hh => with_unfolding_all rfl)); refine r_Subscript ?_; (refine' r_loc ?ee ?nn ?vv ?_; (case ee => assumption); (case nn => walk_at "has"); (case vv => walk_at "has")); (refine' r_loc ?ee ?nn ?vv ?_; (case ee => assumption); (case nn => walk_at "has"); (case vv => walk_at "has")))
          refine x_str_item (j := i) (c := c) (by omega) (by rw [if_neg (by omega)]) hc (fun _ => ?_)
          with_reducible (refine m_lower ?_; refine r_mc ?_; refine r_cw_meth0 ?_; (refine' c_lower ?ss ?aa (fun _ => ?_); (case ss => walk_at "side"); (case aa => walk_at "ascii")); (refine' r_Meth ?_ ?hh; (case hh => with_unfolding_all rfl)); refine r_Subscript ?_; (refine' r_cel ?ee ?nn ?cc ?hc ?nd ?vv ?_; (case ee => assumption); (case nn => walk_at "has"); (case cc => assumption); (case hc => walk_at "has"); (case nd => walk_at "nd"); (case vv => walk_at "seesc")); (refine' r_loc ?ee ?nn ?vv ?_; (case ee => assumption); (case nn => walk_at "has"); (case vv => walk_at "has")))
          refine x_str_item (j := j) (c := d) (by omega) (by rw [if_neg (by omega)]) hd (fun _ => ?_)
          with_reducible (refine m_lower ?_; refine r_mc ?_; refine r_cw_meth0 ?_; (refine' c_lower ?ss ?aa (fun _ => ?_); (case ss => walk_at "side"); (case aa => walk_at "ascii")); refine i_seq ?_; refine t_bool ?_)
          refine r_if (fun h2 => ?_) (fun h2 => ?_)
          · have e : sub1 c d = 1 := by simp only [decide_eq_true_eq, decide_eq_false_iff_not, T_inj, List.map_cons, List.map_nil, List.cons.injEq, and_true] at h h2; simp [sub1, h, h2]
            with_reducible (refine r_int (fun _ => ?_); (refine' r_store ?ee ?nn ?vv ?_; (case ee => assumption); (case nn => walk_at "has"); (case vv => walk_at "put")))
            exact ck_next ⟨_, by rw [e], rfl⟩ (Keeps.rfl' _)
          · have e : sub1 c d = 2 := by simp only [decide_eq_true_eq, decide_eq_false_iff_not, T_inj, List.map_cons, List.map_nil, List.cons.injEq, and_true] at h h2; simp [sub1, h, h2]
            with_reducible (refine r_int (fun _ => ?_); (refine' r_store ?ee ?nn ?vv ?_; (case ee => assumption); (case nn => walk_at "has"); (case vv => walk_at "put")))
            exact ck_next ⟨_, by rw [e], rfl⟩ (Keeps.rfl' _)
      · rintro fr nw ⟨tc, rfl, rfl⟩
        obtain ⟨p0, hp0⟩ : ∃ p, rs[i]? = some p := ⟨_, List.getElem?_eq_getElem (by omega)⟩
        obtain ⟨p1, hp1⟩ : ∃ p, rs[i + 1]? = some p := ⟨_, List.getElem?_eq_getElem (by omega)⟩
        obtain ⟨t1, e1⟩ := row_int (c := j + 1) (z := (j : Int) + 1) hrs hp0 (by omega) (by push_cast; rfl)
        obtain ⟨t2, e2⟩ := row_int (c := j) (z := (j : Int)) hrs hp1 (by omega) rfl
        obtain ⟨t3, e3⟩ := row_int (c := j) (z := (j : Int)) hrs hp0 (by omega) rfl
        have q0 := rowsRef_get (z := (i : Int)) rfl hp0
        have q1 := rowsRef_get (z := (i : Int) + 1) (by push_cast; rfl) hp1
        with_reducible (refine s_cons ?_; (refine' s_AssignSub ?_ ?hh; (case hh => with_unfolding_all rfl)); refine r_CallN ?_; (refine' r_glob ?ee ?nn ?vv ?_; (case ee => assumption); (case nn => walk_at "has"); (case vv => walk_at "has")); (refine' r_cw_builtin ?_ ?hh ?gg; (case hh => with_unfolding_all rfl); (case gg => with_unfolding_all rfl)); (refine' r_args ?_ ?hh; (case hh => with_unfolding_all rfl)); refine r_BinOp ?_; refine r_Subscript ?_; refine r_Subscript ?_; (refine' r_loc ?ee ?nn ?vv ?_; (case ee => assumption); (case nn => walk_at "has"); (case vv => walk_at "has")); (refine' r_loc ?ee ?nn ?vv ?_; (case ee => assumption); (case nn => walk_at "has"); (case vv => walk_at "has")))
        refine x_list_item (seesL_nw Has.here) (by omega) (by omega) q0 ?_
        with_reducible (refine r_BinOp ?_; (refine' r_loc ?ee ?nn ?vv ?_; (case ee => assumption); (case nn => walk_at "has"); (case vv => walk_at "has")); refine r_int (fun _ => ?_); refine i_add (fun _ => ?_))
        refine x_list_item (seesL_nw (Has.there (has_row hp0))) (by omega) (by omega) e1 ?_
        with_reducible (refine r_int (fun _ => ?_); refine i_add (fun _ => ?_); (refine' r_args ?_ ?hh; (case hh => with_unfolding_all rfl)); refine r_BinOp ?_; refine r_Subscript ?_; refine r_Subscript ?_; (refine' r_loc ?ee ?nn ?vv ?_; (case ee => assumption); (case nn => walk_at "has"); (case vv => walk_at "has")); refine r_BinOp ?_; (refine' r_loc ?ee ?nn ?vv ?_; (case ee => assumption); (case nn => walk_at "has"); (case vv => walk_at "has")); refine r_int (fun _ => ?_); refine i_add (fun _ => ?_))
        refine x_list_item (seesL_nw Has.here) (by omega) (by omega) q1 ?_
        with_reducible ((refine' r_loc ?ee ?nn ?vv ?_; (case ee => assumption); (case nn => walk_at "has"); (case vv => walk_at "has")))
        refine x_list_item (seesL_nw (Has.there (has_row hp1))) (by omega) (by omega) e2 ?_
        with_reducible (refine r_int (fun _ => ?_); refine i_add (fun _ => ?_); (refine' r_args ?_ ?hh; (case hh => with_unfolding_all rfl)); refine r_BinOp ?_; refine r_Subscript ?_; refine r_Subscript ?_; (refine' r_loc ?ee ?nn ?vv ?_; (case ee => assumption); (case nn => walk_at "has"); (case vv => walk_at "has")); (refine' r_loc ?ee ?nn ?vv ?_; (case ee => assumption); (case nn => walk_at "has"); (case vv => walk_at "has")))
        refine x_list_item (seesL_nw Has.here) (by omega) (by omega) q0 ?_
        with_reducible ((refine' r_loc ?ee ?nn ?vv ?_; (case ee => assumption); (case nn => walk_at "has"); (case vv => walk_at "has")))
        refine x_list_item (seesL_nw (Has.there (has_row hp0))) (by omega) (by omega) e3 ?_
        with_reducible ((refine' r_loc ?ee ?nn ?vv ?_; (case ee => assumption); (case nn => walk_at "has"); (case vv => walk_at "has")); refine i_add (fun _ => ?_); refine r_args_nil ?_; (refine' c_min3 ?hh (fun _ => ?_); (case hh => assumption)); refine r_Subscript ?_; (refine' r_loc ?ee ?nn ?vv ?_; (case ee => assumption); (case nn => walk_at "has"); (case vv => walk_at "has")); refine r_BinOp ?_; (refine' r_loc ?ee ?nn ?vv ?_; (case ee => assumption); (case nn => walk_at "has"); (case vv => walk_at "has")); refine r_int (fun _ => ?_); refine i_add (fun _ => ?_))
        refine x_list_item (seesL_nw Has.here) (by omega) (by omega) q1 ?_
        with_reducible (refine r_BinOp ?_; (refine' r_loc ?ee ?nn ?vv ?_; (case ee => assumption); (case nn => walk_at "has"); (case vv => walk_at "has")); refine r_int (fun _ => ?_); refine i_add (fun _ => ?_))
        have ev : min (min (tabF (lf x y) i j i (j + 1) + 2) (tabF (lf x y) i j (i + 1) j + 2)) (tabF (lf x y) i j i j + sub1 c d) = cell (lf x y) (i + 1) (j + 1) := by
          rw [cell_succ, hf]
          unfold tabF
          rw [if_pos (by omega), if_pos (by omega), if_pos (by omega)]
        rw [ev]
        have hpl : p1.2.length = y.length + 1 := by rw [(hrs _ _ hp1).length]; simp
        refine r_setItem (Has.there (has_row hp1)) (by omega) (by omega) (by omega) (Put.there (put_row hp1)) ?_
        with_reducible (refine n_next ?_; refine s_nil ?_)
        refine lk_next ⟨rs.set (i + 1) (p1.1, _), _, _, rfl, by rw [rowsRef_set hp1], by rw [List.length_set]; exact hrl, ?_⟩
        intro a p hp
        rw [List.getElem?_set] at hp
        by_cases e : i + 1 = a
        · subst e
          rw [if_pos rfl, if_pos (by omega)] at hp
          cases hp
          have e2 : ((j : Int) + 1).toNat = j + 1 := by omega
          dsimp only
          rw [e2, ← tabF_set (by omega)]
          exact ints_set (hrs _ _ hp1) _ _ _
        · rw [if_neg e] at hp
          rw [tabF_other (Ne.symm e)]
          exact hrs a p hp
    · rintro fr nw ⟨rs, v4, v6, rfl, rfl, hrl, hrs⟩
      with_reducible (refine s_nil ?_; refine n_next ?_; refine s_nil ?_)
      refine lk_next ⟨rs, _, _, _, rfl, rfl, hrl, ?_⟩
      intro a p hp
      have := hrs a p hp
      have e : (List.range (y.length + 1)).map (tabF (lf x y) i y.length a) = (List.range (y.length + 1)).map (tabF (lf x y) (i + 1) 0 a) := List.map_congr_left fun c hc => tabF_next (by have := List.mem_range.mp hc; omega)
      rw [← e]; exact this
  · rintro fr nw ⟨rs, v3, v4, v6, rfl, rfl, hrl, hrs⟩
    with_reducible (refine s_nil ?_; refine n_next ?_; refine s_cons ?_; refine s_Return ?_; refine r_Subscript ?_; refine r_Subscript ?_; (refine' r_loc ?ee ?nn ?vv ?_; (case ee => assumption); (case nn => walk_at "has"); (case vv => walk_at "has")); refine r_CallN ?_; (refine' r_glob ?ee ?nn ?vv ?_; (case ee => assumption); (case nn => walk_at "has"); (case vv => walk_at "has")); (refine' r_cw_builtin ?_ ?hh ?gg; (case hh => with_unfolding_all rfl); (case gg => with_unfolding_all rfl)); (refine' r_args ?_ ?hh; (case hh => with_unfolding_all rfl)); (refine' r_loc ?ee ?nn ?vv ?_; (case ee => assumption); (case nn => walk_at "has"); (case vv => walk_at "has")); refine r_args_nil ?_; (refine' c_len_str ?ss (fun _ => ?_); (case ss => walk_at "side")))
    obtain ⟨p, hp⟩ : ∃ p, rs[x.length]? = some p := ⟨_, List.getElem?_eq_getElem (by omega)⟩
    obtain ⟨t1, e1⟩ := row_int (c := y.length) (z := (y.length : Int)) hrs hp (by omega) rfl
    refine x_list_item (seesL_nw Has.here) (by omega) (by omega) (rowsRef_get (z := (x.length : Int)) rfl hp) ?_
    with_reducible (refine r_CallN ?_; (refine' r_glob ?ee ?nn ?vv ?_; (case ee => assumption); (case nn => walk_at "has"); (case vv => walk_at "has")); (refine' r_cw_builtin ?_ ?hh ?gg; (case hh => with_unfolding_all rfl); (case gg => with_unfolding_all rfl)); (refine' r_args ?_ ?hh; (case hh => with_unfolding_all rfl)); (refine' r_cel ?ee ?nn ?cc ?hc ?nd ?vv ?_; (case ee => assumption); (case nn => walk_at "has"); (case cc => assumption); (case hc => walk_at "has"); (case nd => walk_at "nd"); (case vv => walk_at "seesc")); refine r_args_nil ?_; (refine' c_len_str ?ss (fun _ => ?_); (case ss => walk_at "side")))
    refine x_list_item (seesL_nw (Has.there (has_row hp))) (by omega) (by omega) e1 ?_
    with_reducible (refine n_ret ?_)
    have ev : tabF (lf x y) x.length 0 x.length y.length = dist x y := by
      unfold tabF dist
      rw [if_pos (by omega)]
    rw [ev]
    exact fun s' h' => k _ _ h'.toKeeps
end

-- F4
section
variable {prog : Program} {w : World} {A : Around} {E : Value → Shared → Prop} {s : Shared} {Q : Value → Shared → Prop}

theorem cost_spec {x y : List Nat} {t u : Tok} (ha : ∀ c ∈ x, c < 128) (hb : ∀ c ∈ y, c < 128) (hla : x.length ≤ 20) (hlb : y.length ≤ 20) (ok : Ok A 1) (g : Gd w s.heap)
    (k : ∀ t s', Keeps s s' → Q (.int (dist x y) t) s') : wpAny (model prog w) A (call (.ref 129) [.str (T x) t, .str (T y) u]) Q E s := by
  refine fn_enterC (frC (some (.str (T x) t)) none none none none) (fun L => [(L + 1, .cell (some (.str (T y) u)))]) (fun L => [("two", L + 1)]) g (by have := ok.depth; omega) (by with_unfolding_all rfl) rfl rfl (by kernel_rfl) (by with_unfolding_all rfl) rfl (by dsimp only) (fun _ => by with_unfolding_all rfl) (by kernel_rfl) (fun _ => by with_unfolding_all rfl) (by kernel_rfl) (by walk_at "nd") (by walk_at "nd") (fun _ => by with_unfolding_all rfl) (by kernel_rfl) ?_
  intro env hE hcs
  have ok' := ok.deeper env
  have hh := ok'.handled
  try dsimp only at hcs ⊢
  refine s_cons ?_
  refine s_AssignComp ?_ (swaps_true hE (by walk_at "has") rfl (by kernel_rfl)) (by intro _; with_unfolding_all rfl) (by rw [hcs]; with_unfolding_all rfl) rfl (by kernel_rfl)
  with_reducible (refine r_CallN ?_; (refine' r_glob ?ee ?nn ?vv ?_; (case ee => assumption); (case nn => walk_at "has"); (case vv => walk_at "has")); (refine' r_cw_type ?_ ?hh ?gg; (case hh => with_unfolding_all rfl); (case gg => with_unfolding_all rfl)); (refine' r_args ?_ ?hh; (case hh => with_unfolding_all rfl)); refine r_BinOp ?_; refine r_CallN ?_; (refine' r_glob ?ee ?nn ?vv ?_; (case ee => assumption); (case nn => walk_at "has"); (case vv => walk_at "has")); (refine' r_cw_builtin ?_ ?hh ?gg; (case hh => with_unfolding_all rfl); (case gg => with_unfolding_all rfl)); (refine' r_args ?_ ?hh; (case hh => with_unfolding_all rfl)); (refine' r_loc ?ee ?nn ?vv ?_; (case ee => assumption); (case nn => walk_at "has"); (case vv => walk_at "has")); refine r_args_nil ?_; (refine' c_len_str ?ss (fun _ => ?_); (case ss => walk_at "side")); refine r_int (fun _ => ?_); refine i_add (fun _ => ?_); refine r_args_nil ?_; refine c_range1 (fun _ _ _ => ?_))
  rw [show ((x.length : Int) + 1) = ((x.length + 1 : Nat) : Int) from by push_cast; rfl]
  refine it_range hh (by omega) (itr_use (by omega) hE (by walk_at "has") [(".0", .local), ("i", .cell), ("range", .globalImplicit), ("len", .globalImplicit), ("two", .cell)] (by kernel_rfl) rfl (by walk_at "nd")
    [] rfl .nil (fun C => [("i", C + 1), ("two", env.locals + 1)]) (fun C => [(C + 1, .cell none)]) (fun C => by rw [hcs]; with_unfolding_all rfl) (.inr ⟨rfl, fun h => by with_unfolding_all rfl⟩)
    (fun C i fr nw' ys => ∃ rs cv, fr = [] ∧ nw' = rowsLed rs.reverse ++ [(C + 1, .cell cv)] ∧ ys = rowsRef rs ∧ rs.length = i ∧ RowsOk rs (y.length + 1) (fun a c => 2 * ((a : Int) + c)))
    (fun C => ⟨[], none, rfl, rfl, rfl, rfl, by intro i p h; simp at h⟩) ?_ ?_)
  · rintro D cenv i v ov fr' nw' ys b' hEc hcc hi ⟨⟨tv, rfl⟩, rfl⟩ _ ⟨rs, cv, rfl, rfl, rfl, hrl, hrs⟩ hup hyl
    have hcy : b'.heap.IsCell (env.locals + 1) (some (.str (T y) u)) := hup.cell (seesC_nw (by walk_at "has"))
    try dsimp only at hcc
    refine a_Name ?_
    refine r_storeCel hEc (by walk_at "has") hcc (by walk_at "has") (by walk_at "nd") (Has.there (has_app_r Has.here)) (Put.there (put_app_r Put.here)) ?_
    refine r_ListComp ?_ (by intro _; with_unfolding_all rfl) (by rw [hcc]; with_unfolding_all rfl) rfl (by kernel_rfl)
    with_reducible (refine r_CallN ?_; (refine' r_glob ?ee ?nn ?vv ?_; (case ee => assumption); (case nn => walk_at "has"); (case vv => walk_at "has")); (refine' r_cw_type ?_ ?hh ?gg; (case hh => with_unfolding_all rfl); (case gg => with_unfolding_all rfl)); (refine' r_args ?_ ?hh; (case hh => with_unfolding_all rfl)); refine r_BinOp ?_; refine r_CallN ?_; (refine' r_glob ?ee ?nn ?vv ?_; (case ee => assumption); (case nn => walk_at "has"); (case vv => walk_at "has")); (refine' r_cw_builtin ?_ ?hh ?gg; (case hh => with_unfolding_all rfl); (case gg => with_unfolding_all rfl)); (refine' r_args ?_ ?hh; (case hh => with_unfolding_all rfl)); (refine' r_cel ?ee ?nn ?cc ?hc ?nd ?vv ?_; (case ee => assumption); (case nn => walk_at "has"); (case cc => assumption); (case hc => walk_at "has"); (case nd => walk_at "nd"); (case vv => walk_at "seesc")); refine r_args_nil ?_; (refine' c_len_str ?ss (fun _ => ?_); (case ss => walk_at "side")); refine r_int (fun _ => ?_); refine i_add (fun _ => ?_); refine r_args_nil ?_; refine c_range1 (fun _ _ _ => ?_))
    rw [show ((y.length : Int) + 1) = ((y.length + 1 : Nat) : Int) from by push_cast; rfl]
    refine it_range hh (by omega) (itr_none (by omega) hEc [(".0", .local), ("j", .local), ("i", .cell)] (by kernel_rfl) rfl (by walk_at "nd")
      [("j", none)] rfl (by walk_at "nd") (fun C => [("i", cenv.locals + 1)]) (fun C => []) (fun C => by rw [hcc]; with_unfolding_all rfl) (.inl ⟨rfl, fun h => by with_unfolding_all rfl⟩)
      (fun C j fr nw' zs => ∃ vj : Option Value, fr = ([(Str.ofString "j", vj)] : Frm) ∧ nw' = [] ∧ IntsAre zs ((List.range j).map (fun c : Nat => 2 * ((i : Int) + c))))
      (fun C => ⟨none, rfl, rfl, .nil⟩) ?_ ?_)
    · rintro D2 cenv2 j v2 ov2 fr2 nw2 zs b2 hE2 hc2 hj ⟨⟨tj, rfl⟩, rfl⟩ _ ⟨vj, rfl, rfl, hzs⟩ hup2 hzl
      have hci : b2.heap.IsCell (cenv.locals + 1) (some (.int (i : Int) tv)) := hup2.cell (seesC_nw (Has.there (has_app_r Has.here)))
      try dsimp only at hc2
      with_reducible (refine a_Name ?_; (refine' r_store ?ee ?nn ?vv ?_; (case ee => assumption); (case nn => walk_at "has"); (case vv => walk_at "put")); refine r_BinOp ?_; refine r_int (fun _ => ?_); refine r_BinOp ?_; (refine' r_cel ?ee ?nn ?cc ?hc ?nd ?vv ?_; (case ee => assumption); (case nn => walk_at "has"); (case cc => assumption); (case hc => walk_at "has"); (case nd => walk_at "nd"); (case vv => walk_at "seesc")); (refine' r_loc ?ee ?nn ?vv ?_; (case ee => assumption); (case nn => walk_at "has"); (case vv => walk_at "has")); refine i_add (fun _ => ?_); (refine' i_mul ?ss (fun _ => ?_); (case ss => walk_at "rng")))
      refine ek ⟨_, rfl, rfl, ?_⟩
      rw [List.range_succ, List.map_append]
      exact hzs.append (.cons _ _ .nil)
    · rintro D2 C2 fr2 nw2 zs ⟨vj, rfl, rfl, hzs⟩ hzl
      refine ek1 ⟨rs ++ [(D2, zs)], some (.int (i : Int) tv), rfl, by simp [rowsLed], by simp [rowsRef], by simp [hrl], ?_⟩
      intro a p hp
      by_cases e : a < rs.length
      · rw [List.getElem?_append_left e] at hp
        exact hrs a p hp
      · rw [List.getElem?_append_right (by omega)] at hp
        have e2 : a - rs.length = 0 := by
          have := (List.getElem?_eq_some_iff.mp hp).1
          simp at this
          omega
        rw [e2] at hp
        simp at hp
        subst hp
        have e3 : a = i := by omega
        subst e3
        exact hzs
  · rintro D C fr' nw' ys ⟨rs, cv, rfl, rfl, rfl, hrl, hrs⟩ hyl
    refine ⟨_, by walk_at "put", ?_⟩
    refine St.subperm (nw' := (D, .list (rowsRef rs)) :: (rowsLed rs ++ [(env.locals + 1, .cell (some (.str (T y) u)))])) ⟨(D, .list (rowsRef rs)) :: (rowsLed rs.reverse ++ [(env.locals + 1, .cell (some (.str (T y) u)))]), ?_, ?_⟩ ?_
    · refine .cons _ (.append ?_ (.refl _))
      exact (List.reverse_perm rs).symm.map _
    · refine .cons_cons _ ?_
      rw [List.append_assoc]
      exact (List.Sublist.refl _).append (.cons _ (.refl _))
    refine n_next ?_
    exact cost_loops ha hb hla hlb hE hcs hh hrl hrs k
theorem cost_call {L : Addr} {b : Shared} {fr : Frm} {nw : Led} {x y : List Nat} {t u : Tok} (ha : ∀ c ∈ x, c < 128) (hb : ∀ c ∈ y, c < 128) (hla : x.length ≤ 20) (hlb : y.length ≤ 20) (ok : Ok A 1)
    (k : ∀ t, St w L b fr nw (Q (.int (dist x y) t))) : St w L b fr nw (wpAny (model prog w) A (call (.ref 129) [.str (T x) t, .str (T y) u]) Q E) := fun s hs => cost_spec ha hb hla hlb ok hs.gds fun t s' kk => k t s' (hs.keeps kk)
end

-- F3
/-- the rows of signs, as they stand in the heap -/
abbrev FE := Addr × Int × Tok × Nat × Tok
def ftab : List (Addr × List FE) := [
  (78, [(71, 40960, 295, 108, 323), (72, 49152, 297, 115, 324), (73, 32768, 291, 45, 325), (74, 24576, 289, 98, 326), (75, 16384, 285, 100, 327), (76, 8192, 287, 99, 328), (77, 4096, 293, 112, 329)]),
  (80, [(79, 256, 305, 114, 330)]), (82, [(81, 128, 307, 119, 331)]), (86, [(83, 2112, 332, 115, 333), (84, 2048, 299, 83, 334), (85, 64, 309, 120, 335)]),
  (88, [(87, 32, 311, 114, 336)]), (90, [(89, 16, 313, 119, 337)]), (94, [(91, 1032, 338, 115, 339), (92, 1024, 301, 83, 340), (93, 8, 315, 120, 341)]),
  (96, [(95, 4, 317, 114, 342)]), (98, [(97, 2, 319, 119, 343)]), (102, [(99, 513, 344, 116, 345), (100, 512, 303, 84, 346), (101, 1, 321, 120, 347)])]
abbrev feVals (q : FE) : List Value := [.int q.2.1 q.2.2.1, .str (T [q.2.2.2.1]) q.2.2.2.2]
noncomputable def tupIs (P : Params) (a : Addr) (vs : List Value) : Bool := match (hd.heap_39 P).lookup a with
  | some o => o.cls == .type "tuple" && (match o.data with | .seq xs _ => xs.toList == vs | _ => false)
  | none => false
theorem tupIs_of {P : Params} {a : Addr} {vs : List Value} {h : Heap} (ht : tupIs P a vs = true) (hK : (hd.heap_39 P).In h) : h.IsTuple a vs.toArray := by
  unfold tupIs at ht
  split at ht
  · rename_i o ho
    simp only [Bool.and_eq_true] at ht
    obtain ⟨h1, h2⟩ := ht
    split at h2
    · rename_i xs n hx
      have e : xs = vs.toArray := by rw [← eq_of_beq h2]
      exact ⟨o, hK _ _ ho, eq_of_beq h1, n, by rw [hx, e]⟩
    · cases h2
  · cases ht
theorem ftab_top (P : Params) : tupIs P 103 (ftab.map fun e => .ref e.1) = true := by kernel_rfl
theorem ftab_mid (P : Params) : (ftab.all fun e => tupIs P e.1 (e.2.map fun q => .ref q.1)) = true := by kernel_rfl
theorem ftab_low (P : Params) : (ftab.all fun e => e.2.all fun q => tupIs P q.1 (feVals q)) = true := by kernel_rfl
/-- whether a sign is taken -/
def hit (i : Nat) (m : Int) (bit : Int) : Bool := if i = 0 then decide (Builtin.bitAnd m 61440 = bit) else decide (Builtin.bitAnd m bit = bit)
def pick (i : Nat) (m : Int) (es : List FE) : Nat := match es.find? (fun q => hit i m q.2.1) with
  | some q => q.2.2.2.1
  | none => if i = 0 then 63 else 45
def signs (m : Int) : List Nat := (List.range 10).map fun i => pick i m ((ftab[i]?.map (·.2)).getD [])
theorem pick_hit {i k : Nat} {m : Int} {es : List FE} {q : FE} (hq : es[k]? = some q) (hn : ∀ p ∈ es.take k, hit i m p.2.1 = false) (h : hit i m q.2.1 = true) : pick i m es = q.2.2.2.1 := by
  have e : es.find? (fun q => hit i m q.2.1) = some q := by
    rw [← List.take_append_drop k es, List.find?_append, List.find?_eq_none.mpr (fun p hp => by rw [hn p hp]; simp)]
    have hk := (List.getElem?_eq_some_iff.mp hq)
    obtain ⟨hk1, hk2⟩ := hk
    rw [List.drop_eq_getElem_cons hk1, hk2]
    simp [h]
  unfold pick
  rw [e]
theorem pick_none {i : Nat} {m : Int} {es : List FE} (hn : ∀ p ∈ es, hit i m p.2.1 = false) : pick i m es = if i = 0 then 63 else 45 := by
  unfold pick
  rw [List.find?_eq_none.mpr (fun p hp => by rw [hn p hp]; simp)]
/-- the signs of owner and group -/
theorem signs_ok : ((List.range 4096).all fun r => ((signs (32768 + (r : Int))).take 7).drop 1 == lrow r) = true := by decide +kernel
theorem signs_row {r : Nat} (hr : r < 4096) : ((signs (32768 + (r : Int))).take 7).drop 1 = lrow r := eq_of_beq (List.all_eq_true.mp signs_ok r (List.mem_range.mpr hr))
theorem signs_len (m : Int) : (signs m).length = 10 := by simp [signs]
theorem T_app (x y : List Nat) : T x ++ T y = T (x ++ y) := by show Str.append (T x) (T y) = _; simp [Str.append, T]
theorem join_T (cs : List Nat) : Txt.join (T []) (cs.map fun c => T [c]) = T cs := by
  show Builtin.Str.glued (T []) _ = _
  rw [StrLaws.glued_eq_join]
  induction cs with
  | nil => rfl
  | cons c r ih =>
    cases r with
    | nil => rfl
    | cons d r =>
      show T [c] ++ T [] ++ Str.join (T []) ((d :: r).map fun c => T [c]) = _
      rw [ih, T_app, T_app]
      rfl
theorem lk_nextb {w : World} {L : Addr} {b b' : Shared} {fr : Frm} {nw : Led} {QF : Flow → Shared → Prop} {J : Frm → Led → Prop} (h : J fr nw) (kb : Keeps b b') (g : Gd w b.heap) : St w L b' fr nw (LK w L b J QF .next) := fun s hs => ⟨fr, nw, h, hs.rebase kb g⟩
theorem strs_snoc : ∀ {vs : List Value} {ys : List Str} {y : Str} {t : Tok}, StrsAre vs ys → StrsAre (vs ++ [.str y t]) (ys ++ [y])
  | _, _, y, t, .nil => .cons y t .nil
  | _, _, y, t, .cons z u h => .cons z u (strs_snoc h)
section
variable {prog : Program} {w : World} {A : Around} {E : Value → Shared → Prop} {s : Shared} {Q : Value → Shared → Prop}

abbrev frM (v1 v2 v3 v4 v5 v6 : Option Value) : Frm := [("mode", v1), ("perm", v2), ("index", v3), ("table", v4), ("bit", v5), ("char", v6)]
theorem fmode_spec {m : Int} {t : Tok} (ok : Ok A 2) (g : Gd w s.heap) (k : ∀ t s', Keeps s s' → Q (.str (T (signs m)) t) s') : wpAny (model prog w) A (call (.ref 110) [.int m t]) Q E s := by
  refine fn_enter [("mode", some (.int m t)), ("perm", none), ("index", none), ("table", none), ("bit", none), ("char", none)] g (by have := ok.depth; omega) (by with_unfolding_all rfl) rfl rfl (by kernel_rfl) (by with_unfolding_all rfl) (by dsimp only) (by kernel_rfl) (by kernel_rfl) (by kernel_rfl) (by walk_at "nd") (by walk_at "nd") (by kernel_rfl) ?_
  intro env hE
  have ok' := ok.deeper env
  have hh := ok'.handled
  with_reducible (refine s_cons ?_; (refine' s_Assign ?_ ?hh; (case hh => with_unfolding_all rfl)); refine r_List ?_; refine r_args_nil ?_; (refine' r_newList ?ss (fun _ => ?_); (case ss => walk_at "side")); (refine' r_store ?ee ?nn ?vv ?_; (case ee => assumption); (case nn => walk_at "has"); (case vv => walk_at "put")); refine n_next ?_; refine s_cons ?_; (refine' s_For ?_ ?hh; (case hh => (intro _; with_unfolding_all rfl))); refine r_CallN ?_; (refine' r_glob ?ee ?nn ?vv ?_; (case ee => assumption); (case nn => walk_at "has"); (case vv => walk_at "has")); (refine' r_cw_type ?_ ?hh ?gg; (case hh => with_unfolding_all rfl); (case gg => with_unfolding_all rfl)); (refine' r_args ?_ ?hh; (case hh => with_unfolding_all rfl)); (refine' r_glob ?ee ?nn ?vv ?_; (case ee => assumption); (case nn => walk_at "has"); (case vv => walk_at "has")); refine r_args_nil ?_)
  rename_i pa
  have h103 : s.heap.IsTuple 103 (ftab.map fun e => Value.ref e.1).toArray := tupIs_of (ftab_top _) g.K
  refine f_enumT hh h103 (fun i fr nw => ∃ vs p1 p2 p3 p4, fr = frM (some (.int m t)) (some (.ref pa)) p1 p2 p3 p4 ∧ nw = [(pa, .list vs)] ∧ StrsAre vs (((signs m).take i).map fun c => T [c])) ⟨[], _, _, _, _, rfl, rfl, .nil⟩ ?_ ?_
  · rintro i v T' tt fr nw b' hv hT ⟨vs, p1, p2, p3, p4, rfl, rfl, hvs⟩ kb
    obtain ⟨e, he, rfl⟩ : ∃ e, ftab[i]? = some e ∧ v = .ref e.1 := by
      rw [List.getElem?_map] at hv
      cases q : ftab[i]? with
      | none => rw [q] at hv; cases hv
      | some e => rw [q] at hv; cases hv; exact ⟨e, rfl, rfl⟩
    have hem : e ∈ ftab := List.mem_of_getElem? he
    have hi10 : i < 10 := (List.getElem?_eq_some_iff.mp he).1
    have hsg : ∀ c, pick i m e.2 = c → ((signs m).take i ++ [c]) = (signs m).take (i + 1) := by
      intro c hc
      have : (signs m)[i]? = some c := by
        unfold signs
        rw [List.getElem?_map, List.getElem?_range hi10, Option.map_some, he]
        simp [hc]
      rw [List.take_add_one, this]; rfl
    have gb : Gd w b'.heap := g.mono (Keeps.le kb)
    have hmid : b'.heap.IsTuple e.1 (e.2.map fun q => Value.ref q.1).toArray := tupIs_of (List.all_eq_true.mp (ftab_mid _) e hem) gb.K
    have hvl : vs.length ≤ 10 := by
      have := hvs.len_eq
      simp [signs_len] at this
      omega
    refine a_Tup2 hh (seesT_b hT) ?_
    with_reducible ((refine' r_store ?ee ?nn ?vv ?_; (case ee => assumption); (case nn => walk_at "has"); (case vv => walk_at "put")); (refine' r_store ?ee ?nn ?vv ?_; (case ee => assumption); (case nn => walk_at "has"); (case vv => walk_at "put")); refine s_cons ?_; (refine' s_For ?_ ?hh; (case hh => (intro _; with_unfolding_all rfl))); (refine' r_loc ?ee ?nn ?vv ?_; (case ee => assumption); (case nn => walk_at "has"); (case vv => walk_at "has")))
    refine f_tuple hh (.inr ⟨_, _, _, rfl⟩) hmid (fun k fr nw => ∃ p3 p4, fr = frM (some (.int m t)) (some (.ref pa)) (some (.int i tt)) (some (.ref e.1)) p3 p4 ∧ nw = [(pa, .list vs)] ∧ ∀ p ∈ e.2.take k, hit i m p.2.1 = false) ⟨_, _, rfl, rfl, by simp⟩ ?_ ?_
    · rintro kk v2 fr nw b2 hv2 ⟨p3, p4, rfl, rfl, hno⟩ kb2
      obtain ⟨q, hq, rfl⟩ : ∃ q, e.2[kk]? = some q ∧ v2 = .ref q.1 := by
        rw [List.getElem?_map] at hv2
        cases q : e.2[kk]? with
        | none => rw [q] at hv2; cases hv2
        | some e => rw [q] at hv2; cases hv2; exact ⟨e, rfl, rfl⟩
      have hqm : q ∈ e.2 := List.mem_of_getElem? hq
      have g2 : Gd w b2.heap := gb.mono (Keeps.le kb2)
      have hlow : b2.heap.IsTuple q.1 (feVals q).toArray := tupIs_of (List.all_eq_true.mp (List.all_eq_true.mp (ftab_low _) e hem) q hqm) g2.K
      have nxt : hit i m q.2.1 = false → ∀ p ∈ e.2.take (kk + 1), hit i m p.2.1 = false := by
        intro hf p hp
        rw [List.take_add_one, hq] at hp
        rcases List.mem_append.mp hp with hp | hp
        · exact hno p hp
        · simp at hp; rw [hp]; exact hf
      refine a_Tup2 hh (seesT_b hlow) ?_
      with_reducible ((refine' r_store ?ee ?nn ?vv ?_; (case ee => assumption); (case nn => walk_at "has"); (case vv => walk_at "put")); (refine' r_store ?ee ?nn ?vv ?_; (case ee => assumption); (case nn => walk_at "has"); (case vv => walk_at "put")); refine s_cons ?_; refine s_If ?_; (refine' t_Compare ?_ ?hh; (case hh => with_unfolding_all rfl)); (refine' r_loc ?ee ?nn ?vv ?_; (case ee => assumption); (case nn => walk_at "has"); (case vv => walk_at "has")); refine r_int (fun _ => ?_); refine i_eq ?_; refine t_bool ?_)
      refine r_if (fun h => ?_) (fun h => ?_)
      · simp only [decide_eq_true_eq] at h
        have hi0 : i = 0 := by omega
        with_reducible (refine s_cons ?_; refine s_If ?_; (refine' t_Compare ?_ ?hh; (case hh => with_unfolding_all rfl)); refine r_CallN ?_; (refine' r_glob ?ee ?nn ?vv ?_; (case ee => assumption); (case nn => walk_at "has"); (case vv => walk_at "has")); (refine' r_cw_def ?ff ?_ ?hh; (case ff => walk_at "isfn"); (case hh => with_unfolding_all rfl)); (refine' r_args ?_ ?hh; (case hh => with_unfolding_all rfl)); (refine' r_loc ?ee ?nn ?vv ?_; (case ee => assumption); (case nn => walk_at "has"); (case vv => walk_at "has")); refine r_args_nil ?_; refine r_fn ?_)
        refine ifmt_call (ok'.le (by omega)) (fun _ => ?_)
        with_reducible ((refine' r_loc ?ee ?nn ?vv ?_; (case ee => assumption); (case nn => walk_at "has"); (case vv => walk_at "has")); refine i_eq ?_; refine t_bool ?_)
        refine r_if (fun h2 => ?_) (fun h2 => ?_)
        · simp only [decide_eq_true_eq] at h2
          have hp : pick i m e.2 = q.2.2.2.1 := pick_hit hq hno (by simp [hit, hi0, h2])
          with_reducible (refine s_cons ?_; (refine' s_Expr ?_ ?hh ?gg; (case hh => exact EnvOk.inter (by assumption)); (case gg => with_unfolding_all rfl)); (refine' r_Meth ?_ ?hh; (case hh => with_unfolding_all rfl)); (refine' r_loc ?ee ?nn ?vv ?_; (case ee => assumption); (case nn => walk_at "has"); (case vv => walk_at "has")); (refine' m_append ?ll ?_; (case ll => walk_at "has")); refine r_mc ?_; (refine' r_cw_meth ?_ ?hh ?gg; (case hh => with_unfolding_all rfl); (case gg => with_unfolding_all rfl)); (refine' r_args ?_ ?hh; (case hh => with_unfolding_all rfl)); (refine' r_loc ?ee ?nn ?vv ?_; (case ee => assumption); (case nn => walk_at "has"); (case vv => walk_at "has")); refine r_args_nil ?_)
          refine c_append (by walk_at "has") (by omega) (by walk_at "put") ?_
          with_reducible (refine n_next ?_; refine s_cons ?_; refine s_Break ?_; refine n_brk ?_; refine n_brk ?_; refine n_brk ?_; refine lk_brk ?_; refine n_next ?_; refine s_nil ?_)
          refine lk_nextb ⟨_, _, _, _, _, rfl, rfl, ?_⟩ kb2 gb
          rw [← hsg _ hp, List.map_append]
          exact strs_snoc hvs
        · simp only [decide_eq_false_iff_not] at h2
          with_reducible (refine s_nil ?_; refine n_next ?_; refine s_nil ?_; refine n_next ?_; refine s_nil ?_)
          exact lk_next ⟨_, _, rfl, rfl, nxt (by simp [hit, hi0, h2])⟩
      · simp only [decide_eq_false_iff_not] at h
        have hi0 : i ≠ 0 := by omega
        with_reducible (refine s_cons ?_; refine s_If ?_; (refine' t_Compare ?_ ?hh; (case hh => with_unfolding_all rfl)); refine r_BinOp ?_; (refine' r_loc ?ee ?nn ?vv ?_; (case ee => assumption); (case nn => walk_at "has"); (case vv => walk_at "has")); (refine' r_loc ?ee ?nn ?vv ?_; (case ee => assumption); (case nn => walk_at "has"); (case vv => walk_at "has")); refine i_and (fun _ => ?_); (refine' r_loc ?ee ?nn ?vv ?_; (case ee => assumption); (case nn => walk_at "has"); (case vv => walk_at "has")); refine i_eq ?_; refine t_bool ?_)
        refine r_if (fun h2 => ?_) (fun h2 => ?_)
        · simp only [decide_eq_true_eq] at h2
          have hp : pick i m e.2 = q.2.2.2.1 := pick_hit hq hno (by simp [hit, hi0, h2])
          with_reducible (refine s_cons ?_; (refine' s_Expr ?_ ?hh ?gg; (case hh => exact EnvOk.inter (by assumption)); (case gg => with_unfolding_all rfl)); (refine' r_Meth ?_ ?hh; (case hh => with_unfolding_all rfl)); (refine' r_loc ?ee ?nn ?vv ?_; (case ee => assumption); (case nn => walk_at "has"); (case vv => walk_at "has")); (refine' m_append ?ll ?_; (case ll => walk_at "has")); refine r_mc ?_; (refine' r_cw_meth ?_ ?hh ?gg; (case hh => with_unfolding_all rfl); (case gg => with_unfolding_all rfl)); (refine' r_args ?_ ?hh; (case hh => with_unfolding_all rfl)); (refine' r_loc ?ee ?nn ?vv ?_; (case ee => assumption); (case nn => walk_at "has"); (case vv => walk_at "has")); refine r_args_nil ?_)
          refine c_append (by walk_at "has") (by omega) (by walk_at "put") ?_
          with_reducible (refine n_next ?_; refine s_cons ?_; refine s_Break ?_; refine n_brk ?_; refine n_brk ?_; refine n_brk ?_; refine lk_brk ?_; refine n_next ?_; refine s_nil ?_)
          refine lk_nextb ⟨_, _, _, _, _, rfl, rfl, ?_⟩ kb2 gb
          rw [← hsg _ hp, List.map_append]
          exact strs_snoc hvs
        · simp only [decide_eq_false_iff_not] at h2
          with_reducible (refine s_nil ?_; refine n_next ?_; refine s_nil ?_; refine n_next ?_; refine s_nil ?_)
          exact lk_next ⟨_, _, rfl, rfl, nxt (by simp [hit, hi0, h2])⟩
    · rintro fr nw ⟨p3, p4, rfl, rfl, hno⟩
      rw [List.length_map, List.take_length] at hno
      have hp := pick_none hno
      with_reducible (refine s_cons ?_; refine s_If ?_; (refine' t_Compare ?_ ?hh; (case hh => with_unfolding_all rfl)); (refine' r_loc ?ee ?nn ?vv ?_; (case ee => assumption); (case nn => walk_at "has"); (case vv => walk_at "has")); refine r_int (fun _ => ?_); refine i_eq ?_; refine t_bool ?_)
      refine r_if (fun h => ?_) (fun h => ?_)
      · simp only [decide_eq_true_eq] at h
        rw [if_pos (by omega)] at hp
        with_reducible (refine s_cons ?_; (refine' s_Expr ?_ ?hh ?gg; (case hh => exact EnvOk.inter (by assumption)); (case gg => with_unfolding_all rfl)); (refine' r_Meth ?_ ?hh; (case hh => with_unfolding_all rfl)); (refine' r_loc ?ee ?nn ?vv ?_; (case ee => assumption); (case nn => walk_at "has"); (case vv => walk_at "has")); (refine' m_append ?ll ?_; (case ll => walk_at "has")); refine r_mc ?_; (refine' r_cw_meth ?_ ?hh ?gg; (case hh => with_unfolding_all rfl); (case gg => with_unfolding_all rfl)); (refine' r_args ?_ ?hh; (case hh => with_unfolding_all rfl)); (refine' r_strT ?ll (fun _ => ?_); (case ll => first | exact lit0 | exact lit_r | exact lit_w | exact lit_x | exact lit_wR | exact lit_q | exact lit_m)); refine r_args_nil ?_)
        refine c_append (by walk_at "has") (by omega) (by walk_at "put") ?_
        with_reducible (refine n_next ?_; refine s_nil ?_; refine n_next ?_; refine s_nil ?_; refine n_next ?_; refine s_nil ?_)
        refine lk_next ⟨_, _, _, _, _, rfl, rfl, ?_⟩
        rw [← hsg _ hp, List.map_append]
        exact strs_snoc hvs
      · simp only [decide_eq_false_iff_not] at h
        rw [if_neg (by omega)] at hp
        with_reducible (refine s_cons ?_; (refine' s_Expr ?_ ?hh ?gg; (case hh => exact EnvOk.inter (by assumption)); (case gg => with_unfolding_all rfl)); (refine' r_Meth ?_ ?hh; (case hh => with_unfolding_all rfl)); (refine' r_loc ?ee ?nn ?vv ?_; (case ee => assumption); (case nn => walk_at "has"); (case vv => walk_at "has")); (refine' m_append ?ll ?_; (case ll => walk_at "has")); refine r_mc ?_; (refine' r_cw_meth ?_ ?hh ?gg; (case hh => with_unfolding_all rfl); (case gg => with_unfolding_all rfl)); (refine' r_args ?_ ?hh; (case hh => with_unfolding_all rfl)); (refine' r_strT ?ll (fun _ => ?_); (case ll => first | exact lit0 | exact lit_r | exact lit_w | exact lit_x | exact lit_wR | exact lit_q | exact lit_m)); refine r_args_nil ?_)
        refine c_append (by walk_at "has") (by omega) (by walk_at "put") ?_
        with_reducible (refine n_next ?_; refine s_nil ?_; refine n_next ?_; refine s_nil ?_; refine n_next ?_; refine s_nil ?_)
        refine lk_next ⟨_, _, _, _, _, rfl, rfl, ?_⟩
        rw [← hsg _ hp, List.map_append]
        exact strs_snoc hvs
  · rintro fr nw ⟨vs, p1, p2, p3, p4, rfl, rfl, hvs⟩
    have e10 : (signs m).take (ftab.map fun e => Value.ref e.1).length = signs m := List.take_of_length_le (by rw [signs_len]; decide)
    rw [e10] at hvs
    with_reducible (refine s_nil ?_; refine n_next ?_; refine s_cons ?_; refine s_Return ?_; (refine' r_Meth ?_ ?hh; (case hh => with_unfolding_all rfl)); (refine' r_strT ?ll (fun _ => ?_); (case ll => first | exact lit0 | exact lit_r | exact lit_w | exact lit_x | exact lit_wR | exact lit_q | exact lit_m)); refine m_join ?_; refine r_mc ?_; (refine' r_cw_meth ?_ ?hh ?gg; (case hh => with_unfolding_all rfl); (case gg => with_unfolding_all rfl)); (refine' r_args ?_ ?hh; (case hh => with_unfolding_all rfl)); (refine' r_loc ?ee ?nn ?vv ?_; (case ee => assumption); (case nn => walk_at "has"); (case vv => walk_at "has")); refine r_args_nil ?_)
    refine c_join (seesL_nw (by walk_at "has")) hvs ?_ (fun _ => ?_)
    · rw [List.map_map]
      have : ((signs m).map ((fun x : Str => x.length) ∘ fun c => T [c])).sum = (signs m).length := by
        generalize signs m = l
        induction l with
        | nil => rfl
        | cons a r ih => simp [Str.length] at ih ⊢; omega
      rw [this, signs_len]; omega
    · rw [join_T]
      with_reducible (refine n_ret ?_)
      exact fun s' h' => k _ _ h'.toKeeps
theorem fmode_call {L : Addr} {b : Shared} {fr : Frm} {nw : Led} {m : Int} {t : Tok} (ok : Ok A 2) (h : ∀ t, St w L b fr nw (Q (.str (T (signs m)) t))) : St w L b fr nw (wpAny (model prog w) A (call (.ref 110) [.int m t]) Q E) := fun s hs => fmode_spec ok hs.gds fun t s' k => h t s' (hs.keeps k)
end

-- F5
abbrev tupLed (gs : List (Addr × List Value)) : Led := gs.map fun p => (p.1, .tup p.2)
abbrev neg (h : HI) : PI := (-h.2.1, -h.2.2)
abbrev AI := Addr × Int × Int
theorem plt_neg (p q : PI) : plt (-p.1, -p.2) (-q.1, -q.2) = plt q p := by unfold plt; congr 1; simp only [eq_iff_iff]; omega
theorem Put.uniq {α β : Type} {l a c : List (α × β)} {x : α} {v : β} (nd : (l.map (·.1)).Nodup) (h1 : Put l x v a) (h2 : Put l x v c) : a = c := by
  induction h1 generalizing c with
  | here =>
    cases h2 with
    | here => rfl
    | there h => exact absurd h.key (List.nodup_cons.mp nd).1
  | there h ih =>
    cases h2 with
    | here => exact absurd h.key (List.nodup_cons.mp nd).1
    | there h' => rw [ih (List.nodup_cons.mp nd).2 h']
/-- the last of the heap's: the farthest -/
theorem pop_top {h0 : HI} {rest : List HI} {init : List PI} {last : PI} (hr : RootMin (h0 :: rest)) (hu : Up3 (init ++ [last])) (hp : ((h0 :: rest).map neg).Perm (init ++ [last])) : neg h0 = last ∧ (rest.map neg).Perm init := by
  have e : neg h0 = last := by
    have hm := hp.mem_iff.mp (List.mem_map_of_mem (f := neg) (List.mem_cons_self (a := h0) (l := rest)))
    rcases List.mem_append.mp hm with hm | hm
    · obtain ⟨h, hh, e⟩ := List.mem_map.mp (hp.mem_iff.mpr (List.mem_append_right init (List.mem_singleton.mpr rfl)))
      have q1 := hr h0 rfl h hh
      have q2 := (List.pairwise_append.mp hu).2.2 _ hm last (List.mem_singleton.mpr rfl)
      rw [← e] at q2
      rw [plt_neg h0.2 h.2] at q2
      rw [q1] at q2; cases q2
    · exact List.mem_singleton.mp hm
  refine ⟨e, ?_⟩
  have h2 : (last :: rest.map neg).Perm (last :: init) := by
    have := hp.trans (List.perm_append_comm (l₁ := init) (l₂ := [last]))
    rw [List.map_cons, e] at this
    exact this
  exact (List.perm_cons last).mp h2
theorem ints_rev : ∀ {vs : List Value} {ns : List Int}, IntsAre vs ns → IntsAre vs.reverse ns.reverse
  | _, _, .nil => .nil
  | _, _, .cons n t h => by
    rw [List.reverse_cons, List.reverse_cons]
    exact (ints_rev h).append (.cons n t .nil)
section
variable {prog : Program} {w : World} {A : Around} {E : Value → Shared → Prop} {s : Shared} {Q : Value → Shared → Prop}
theorem St.put_eq {L H : Addr} {b : Shared} {fr : Frm} {nw nw1 nw2 : Led} {d : D} {R : Shared → Prop} (h1 : Put nw H d nw1) (h2 : Put nw H d nw2) (k : St w L b fr nw2 R) : St w L b fr nw1 R := fun s hs => by
  have nd : (nw.map (·.1)).Nodup := by rw [← h1.keys]; exact hs.ndn
  rw [Put.uniq nd h1 h2] at hs
  exact k s hs

abbrev frN (v1 v2 v3 v4 v5 v6 v7 v8 : Option Value) : Frm := [("typed", v1), ("rows", v2), ("heap", v3), ("asked", v4), ("k", v5), ("bound", v6), ("cost", v7), ("came", v8)]
/-- the costs, with the rows' numbers -/
def prs (x : List Nat) (rl : List (List Nat)) (k : Nat) : List PI := (List.range k).map fun j => (dist x (rl.getD j []), (j : Int))
theorem prs_succ (x : List Nat) (rl : List (List Nat)) (k : Nat) : prs x rl (k + 1) = prs x rl k ++ [(dist x (rl.getD k []), (k : Int))] := by simp [prs, List.range_succ]
theorem prs_nodup (x : List Nat) (rl : List (List Nat)) (k : Nat) : (prs x rl k).Nodup := by
  unfold prs
  rw [List.nodup_iff_pairwise_ne, List.pairwise_map]
  refine List.pairwise_lt_range.imp ?_
  intro a c h e
  simp only [Prod.mk.injEq] at e
  omega
/-- what was asked, row by row -/
def AsOk (x : List Nat) (rl : List (List Nat)) (gs : List (Addr × List Value)) (as : List AI) : Prop := ∀ j a, as[j]? = some a → (dist x (rl.getD j []) ≤ a.2.1 → a.2.2 = dist x (rl.getD j [])) ∧ (a.2.1 < dist x (rl.getD j []) → a.2.1 < a.2.2) ∧ ∃ t1 t2, (a.1, [Value.int a.2.1 t1, Value.int a.2.2 t2]) ∈ gs
def HsOk (gs : List (Addr × List Value)) (hs : List HI) : Prop := ∀ h ∈ hs, ∃ t1 t2, (h.1, [Value.int h.2.1 t1, Value.int h.2.2 t2]) ∈ gs

theorem near_spec {x : List Nat} {t : Tok} {ra : Addr} {vs : List Value} {rl : List (List Nat)} (hx : ∀ c ∈ x, c < 128) (hxl : x.length ≤ 20) (hrl : ∀ r ∈ rl, (∀ c ∈ r, c < 128) ∧ r.length ≤ 20) (hn : rl.length < 100) (hV : StrsAre vs (rl.map T)) (hL : s.heap.IsList ra vs.toArray) (ok : Ok A 4) (g : Gd w s.heap)
    (k : ∀ gs as Aa Ra rv tt s', Keeps s s' → (∀ a, a = Aa ∨ a = Ra ∨ a = tt ∨ (∃ p ∈ gs, p.1 = a) → s.heap.get? a = none) → s'.heap.IsTuple tt #[.ref Aa, .ref Ra] → s'.heap.IsList Aa (as.map fun a : AI => Value.ref a.1).toArray → s'.heap.IsList Ra (rv : List Value).toArray → (∀ p ∈ gs, s'.heap.IsTuple p.1 p.2.toArray) →
      as.length = rl.length → AsOk x rl gs as → IntsAre rv (((srt (prs x rl rl.length)).take 3).map (·.2)) → Q (.ref tt) s') :
    wpAny (model prog w) A (call (.ref 136) [.str (T x) t, .ref ra]) Q E s := by
  refine fn_enter (frN (some (.str (T x) t)) (some (.ref ra)) none none none none none none) g (by have := ok.depth; omega) (by with_unfolding_all rfl) rfl rfl (by kernel_rfl) (by with_unfolding_all rfl) (by dsimp only) (by kernel_rfl) (by kernel_rfl) (by kernel_rfl) (by walk_at "nd") (by walk_at "nd") (by kernel_rfl) ?_
  intro env hE
  have ok' := ok.deeper env
  have hh := ok'.handled
  have hvl : vs.length = rl.length := by rw [hV.len_eq]; simp
  with_reducible (refine s_cons ?_; (refine' s_Assign ?_ ?hh; (case hh => with_unfolding_all rfl)); refine r_List ?_; refine r_args_nil ?_; (refine' r_newList ?ss (fun _ => ?_); (case ss => walk_at "side")); (refine' r_store ?ee ?nn ?vv ?_; (case ee => assumption); (case nn => walk_at "has"); (case vv => walk_at "put")); refine n_next ?_; refine s_cons ?_; (refine' s_Assign ?_ ?hh; (case hh => with_unfolding_all rfl)); refine r_List ?_; refine r_args_nil ?_; (refine' r_newList ?ss (fun _ => ?_); (case ss => walk_at "side")); (refine' r_store ?ee ?nn ?vv ?_; (case ee => assumption); (case nn => walk_at "has"); (case vv => walk_at "put")); refine n_next ?_; refine s_cons ?_; (refine' s_For ?_ ?hh; (case hh => (intro _; with_unfolding_all rfl))); refine r_CallN ?_; (refine' r_glob ?ee ?nn ?vv ?_; (case ee => assumption); (case nn => walk_at "has"); (case vv => walk_at "has")); (refine' r_cw_type ?_ ?hh ?gg; (case hh => with_unfolding_all rfl); (case gg => with_unfolding_all rfl)); (refine' r_args ?_ ?hh; (case hh => with_unfolding_all rfl)); refine r_CallN ?_; (refine' r_glob ?ee ?nn ?vv ?_; (case ee => assumption); (case nn => walk_at "has"); (case vv => walk_at "has")); (refine' r_cw_builtin ?_ ?hh ?gg; (case hh => with_unfolding_all rfl); (case gg => with_unfolding_all rfl)); (refine' r_args ?_ ?hh; (case hh => with_unfolding_all rfl)); (refine' r_loc ?ee ?nn ?vv ?_; (case ee => assumption); (case nn => walk_at "has"); (case vv => walk_at "has")); refine r_args_nil ?_; (refine' c_len_list ?ll ?ss (fun _ => ?_); (case ll => walk_at "sees"); (case ss => walk_at "side")); refine r_args_nil ?_; refine c_range1 (fun _ _ _ => ?_))
  rename_i Ha Aa _ _ _ _
  rw [hvl]
  refine f_range (n := rl.length) (fun k fr nw => ∃ gs as hs v5 v6 v7, fr = frN (some (.str (T x) t)) (some (.ref ra)) (some (.ref Ha)) (some (.ref Aa)) v5 v6 v7 none ∧ nw = tupLed gs ++ [(Aa, .list (as.map fun a : AI => Value.ref a.1)), (Ha, .list (hs.map vref))] ∧ as.length = k ∧ AsOk x rl gs as ∧ HsOk gs hs ∧ RootMin hs ∧ (hs.map neg).Perm ((srt (prs x rl k)).take 3)) hh (by omega) ⟨[], [], [], _, _, _, rfl, rfl, rfl, (by intro j a h; simp at h), (by intro h hm; cases hm), (by intro h0 e; simp at e), .refl _⟩ ?_ ?_
  · rintro k fr nw b' tk hk ⟨gs, as, hs, v5, v6, v7, rfl, rfl, hal, hAs, hHs, hroot, hperm⟩ kb
    have hL' : b'.heap.IsList ra vs.toArray := let ⟨o, ho, r⟩ := hL; ⟨o, Keeps.le kb _ _ ho, r⟩
    have hsr := srt_up (prs_nodup x rl k)
    have hsl : (srt (prs x rl k)).length = k := by rw [(srt_perm _).length_eq]; simp [prs]
    have hhl : hs.length = min 3 k := by have := hperm.length_eq; simp [hsl] at this; omega
    obtain ⟨r, hr⟩ : ∃ r, rl[k]? = some r := ⟨_, List.getElem?_eq_getElem hk⟩
    have hgd : rl.getD k [] = r := by simp [hr]
    have hrm := hrl r (List.mem_of_getElem? hr)
    obtain ⟨tr, hvr⟩ : ∃ tr, vs[k]? = some (.str (T r) tr) := hV.get k _ (by simp [hr])
    have hd99 : dist x r ≤ 99 := by
      have := cell_le_max (f := lf x r) x.length r.length
      unfold dist
      omega
    have seeH : ∀ {fr' : Frm} (gs' : List (Addr × List Value)) {rest : Led} {h : HI}, h ∈ hs → (∀ p ∈ gs, p ∈ gs') → SeesP w env.locals b' fr' (tupLed gs' ++ rest) h := by
      intro fr' gs' rest h hm hsub
      obtain ⟨t1, t2, hg⟩ := hHs h hm
      exact ⟨t1, t2, seesT_nw (has_app_l (has_of (List.mem_map_of_mem (f := fun p : Addr × List Value => (p.1, D.tup p.2)) (hsub _ hg))))⟩
    refine r_store hE (by walk_at "has") (by walk_at "put") ?_
    refine s_cons ?_
    refine n_cut (fun fr nw => ∃ bd tb, fr = frN (some (.str (T x) t)) (some (.ref ra)) (some (.ref Ha)) (some (.ref Aa)) (some (.int k tk)) (some (.int bd tb)) v7 none ∧ nw = tupLed gs ++ [(Aa, .list (as.map fun a : AI => Value.ref a.1)), (Ha, .list (hs.map vref))] ∧ ((∃ h0 rest, hs = h0 :: rest ∧ hs.length = 3 ∧ bd = -h0.2.1 - 1) ∨ (hs.length < 3 ∧ bd = 99))) ?_ ?_
    · with_reducible ((refine' s_Assign ?_ ?hh; (case hh => with_unfolding_all rfl)); refine r_IfExp ?_; (refine' t_Compare ?_ ?hh; (case hh => with_unfolding_all rfl)); refine r_CallN ?_; (refine' r_glob ?ee ?nn ?vv ?_; (case ee => assumption); (case nn => walk_at "has"); (case vv => walk_at "has")); (refine' r_cw_builtin ?_ ?hh ?gg; (case hh => with_unfolding_all rfl); (case gg => with_unfolding_all rfl)); (refine' r_args ?_ ?hh; (case hh => with_unfolding_all rfl)); (refine' r_loc ?ee ?nn ?vv ?_; (case ee => assumption); (case nn => walk_at "has"); (case vv => walk_at "has")); refine r_args_nil ?_; (refine' c_len_list ?ll ?ss (fun _ => ?_); (case ll => walk_at "sees"); (case ss => walk_at "side")); refine r_int (fun _ => ?_); refine i_eq ?_; refine t_bool ?_)
      refine r_if (fun h => ?_) (fun h => ?_)
      · simp only [decide_eq_true_eq, List.length_map] at h
        have h3 : hs.length = 3 := by omega
        obtain ⟨h0, rest, rfl⟩ : ∃ h0 rest, hs = h0 :: rest := by
          cases hs with
          | nil => simp at h3
          | cons a r => exact ⟨a, r, rfl⟩
        obtain ⟨t1, t2, hg⟩ := hHs h0 (.head _)
        with_reducible (refine r_BinOp ?_; refine r_UnaryOp ?_; refine r_Subscript ?_; refine r_Subscript ?_; (refine' r_loc ?ee ?nn ?vv ?_; (case ee => assumption); (case nn => walk_at "has"); (case vv => walk_at "has")); refine r_int (fun _ => ?_))
        refine x_list_item (seesL_nw (by walk_at "has")) (by omega) (by omega) (v := .ref h0.1) rfl ?_
        with_reducible (refine r_int (fun _ => ?_))
        refine x_tup_item (vs := [.int h0.2.1 t1, .int h0.2.2 t2]) (seesT_nw (has_app_l (has_of (List.mem_map_of_mem (f := fun p : Addr × List Value => (p.1, D.tup p.2)) hg)))) (by omega) (by omega) (v := .int h0.2.1 t1) rfl ?_
        with_reducible (refine i_neg (fun _ => ?_); refine r_int (fun _ => ?_); refine i_sub (fun _ => ?_); (refine' r_store ?ee ?nn ?vv ?_; (case ee => assumption); (case nn => walk_at "has"); (case vv => walk_at "put")))
        exact ck_next ⟨_, _, rfl, rfl, .inl ⟨h0, rest, rfl, h3, rfl⟩⟩ (Keeps.rfl' _)
      · simp only [decide_eq_false_iff_not, List.length_map] at h
        with_reducible (refine r_int (fun _ => ?_); (refine' r_store ?ee ?nn ?vv ?_; (case ee => assumption); (case nn => walk_at "has"); (case vv => walk_at "put")))
        exact ck_next ⟨_, _, rfl, rfl, .inr ⟨by omega, rfl⟩⟩ (Keeps.rfl' _)
    · rintro fr nw ⟨bd, tb, rfl, rfl, hbd⟩
      with_reducible (refine s_cons ?_; (refine' s_Assign ?_ ?hh; (case hh => with_unfolding_all rfl)); refine r_CallN ?_; (refine' r_glob ?ee ?nn ?vv ?_; (case ee => assumption); (case nn => walk_at "has"); (case vv => walk_at "has")); (refine' r_cw_def ?ff ?_ ?hh; (case ff => walk_at "isfn"); (case hh => with_unfolding_all rfl)); (refine' r_args ?_ ?hh; (case hh => with_unfolding_all rfl)); (refine' r_loc ?ee ?nn ?vv ?_; (case ee => assumption); (case nn => walk_at "has"); (case vv => walk_at "has")); (refine' r_args ?_ ?hh; (case hh => with_unfolding_all rfl)); refine r_Subscript ?_; (refine' r_loc ?ee ?nn ?vv ?_; (case ee => assumption); (case nn => walk_at "has"); (case vv => walk_at "has")); (refine' r_loc ?ee ?nn ?vv ?_; (case ee => assumption); (case nn => walk_at "has"); (case vv => walk_at "has")))
      refine x_list_item (seesL_b hL') (by omega) (by omega) (v := .str (T r) tr) (by simpa using hvr) ?_
      with_reducible ((refine' r_args ?_ ?hh; (case hh => with_unfolding_all rfl)); (refine' r_loc ?ee ?nn ?vv ?_; (case ee => assumption); (case nn => walk_at "has"); (case vv => walk_at "has")); refine r_args_nil ?_; refine r_fn ?_)
      refine lev_call hx hrm.1 hxl hrm.2 (ok'.le (by omega)) (fun cost tc hc1 hc2 => ?_)
      with_reducible ((refine' r_store ?ee ?nn ?vv ?_; (case ee => assumption); (case nn => walk_at "has"); (case vv => walk_at "put")); refine n_next ?_; refine s_cons ?_; (refine' s_Expr ?_ ?hh ?gg; (case hh => exact EnvOk.inter (by assumption)); (case gg => with_unfolding_all rfl)); (refine' r_Meth ?_ ?hh; (case hh => with_unfolding_all rfl)); (refine' r_loc ?ee ?nn ?vv ?_; (case ee => assumption); (case nn => walk_at "has"); (case vv => walk_at "has")); (refine' m_append ?ll ?_; (case ll => walk_at "has")); refine r_mc ?_; (refine' r_cw_meth ?_ ?hh ?gg; (case hh => with_unfolding_all rfl); (case gg => with_unfolding_all rfl)); (refine' r_args ?_ ?hh; (case hh => with_unfolding_all rfl)); refine r_Tuple ?_; (refine' r_args ?_ ?hh; (case hh => with_unfolding_all rfl)); (refine' r_loc ?ee ?nn ?vv ?_; (case ee => assumption); (case nn => walk_at "has"); (case vv => walk_at "has")); (refine' r_args ?_ ?hh; (case hh => with_unfolding_all rfl)); (refine' r_loc ?ee ?nn ?vv ?_; (case ee => assumption); (case nn => walk_at "has"); (case vv => walk_at "has")); refine r_args_nil ?_; (refine' r_newTuple ?ss (fun _ => ?_); (case ss => walk_at "side")); refine r_args_nil ?_)
      rename_i ta
      refine c_append (by walk_at "has") (by rw [List.length_map]; omega) (by walk_at "put") ?_
      have eas : (as.map fun a : AI => Value.ref a.1) ++ [Value.ref ta] = (as ++ [(ta, bd, cost)]).map fun a : AI => Value.ref a.1 := by simp
      rw [eas]
      have hAs1 : AsOk x rl ((ta, [.int bd tb, .int cost tc]) :: gs) (as ++ [(ta, bd, cost)]) := by
        intro j a ha
        by_cases hj : j < as.length
        · rw [List.getElem?_append_left hj] at ha
          obtain ⟨q1, q2, t1, t2, q3⟩ := hAs j a ha
          exact ⟨q1, q2, t1, t2, .tail _ q3⟩
        · rw [List.getElem?_append_right (by omega)] at ha
          have hj0 : j - as.length = 0 := by have := (List.getElem?_eq_some_iff.mp ha).1; simp at this; omega
          rw [hj0] at ha
          simp at ha
          subst ha
          have hjk : j = k := by omega
          subst hjk
          rw [hgd]
          exact ⟨hc1, hc2, tb, tc, .head _⟩
      have hal1 : (as ++ [(ta, bd, cost)]).length = k + 1 := by simp [hal]
      have hps : srt (prs x rl (k + 1)) = ins (dist x r, (k : Int)) (srt (prs x rl k)) := by rw [prs_succ, srt_snoc, hgd]
      have hrootl : hs.length ≤ 3 := by omega
      with_reducible (refine n_next ?_; refine s_cons ?_)
      refine s_If ?_
      with_reducible ((refine' t_Compare ?_ ?hh; (case hh => with_unfolding_all rfl)); refine r_CallN ?_; (refine' r_glob ?ee ?nn ?vv ?_; (case ee => assumption); (case nn => walk_at "has"); (case vv => walk_at "has")); (refine' r_cw_builtin ?_ ?hh ?gg; (case hh => with_unfolding_all rfl); (case gg => with_unfolding_all rfl)); (refine' r_args ?_ ?hh; (case hh => with_unfolding_all rfl)); (refine' r_loc ?ee ?nn ?vv ?_; (case ee => assumption); (case nn => walk_at "has"); (case vv => walk_at "has")); refine r_args_nil ?_; (refine' c_len_list ?ll ?ss (fun _ => ?_); (case ll => walk_at "sees"); (case ss => walk_at "side")); refine r_int (fun _ => ?_); refine i_lt ?_; refine t_bool ?_)
      refine r_if (fun h => ?_) (fun h => ?_)
      · simp only [decide_eq_true_eq, List.length_map] at h
        have h3 : hs.length < 3 := by omega
        have hbd2 : bd = 99 := by
          rcases hbd with ⟨h0, rest, e1, e2, e3⟩ | ⟨_, e⟩
          · omega
          · exact e
        have hcd : cost = dist x r := hc1 (by omega)
        with_reducible (refine s_cons ?_; (refine' s_Expr ?_ ?hh ?gg; (case hh => exact EnvOk.inter (by assumption)); (case gg => with_unfolding_all rfl)); refine r_CallN ?_; (refine' r_glob ?ee ?nn ?vv ?_; (case ee => assumption); (case nn => walk_at "has"); (case vv => walk_at "has")); (refine' r_cw_def ?ff ?_ ?hh; (case ff => walk_at "isfn"); (case hh => with_unfolding_all rfl)); (refine' r_args ?_ ?hh; (case hh => with_unfolding_all rfl)); (refine' r_loc ?ee ?nn ?vv ?_; (case ee => assumption); (case nn => walk_at "has"); (case vv => walk_at "has")); (refine' r_args ?_ ?hh; (case hh => with_unfolding_all rfl)); refine r_Tuple ?_; (refine' r_args ?_ ?hh; (case hh => with_unfolding_all rfl)); refine r_UnaryOp ?_; (refine' r_loc ?ee ?nn ?vv ?_; (case ee => assumption); (case nn => walk_at "has"); (case vv => walk_at "has")); refine i_neg (fun _ => ?_); (refine' r_args ?_ ?hh; (case hh => with_unfolding_all rfl)); refine r_UnaryOp ?_; (refine' r_loc ?ee ?nn ?vv ?_; (case ee => assumption); (case nn => walk_at "has"); (case vv => walk_at "has")); refine i_neg (fun _ => ?_); refine r_args_nil ?_; (refine' r_newTuple ?ss (fun _ => ?_); (case ss => walk_at "side")); refine r_args_nil ?_; refine r_fn ?_)
        rename_i tg
        refine push_call (g := (tg, -cost, -(k : Int))) (by walk_at "has") hroot (by omega) (fun h hm => seeH ((tg, _) :: (ta, _) :: gs) hm (fun p hp => .tail _ (.tail _ hp))) ⟨_, _, seesT_nw Has.here⟩ (ok'.le (by omega)) ?_
        intro hs' nw' hp' hr' hput
        refine St.put_eq hput (Put.there (Put.there (put_app_r (Put.there Put.here)))) ?_
        with_reducible (refine n_next ?_; refine s_nil ?_; refine n_next ?_; refine s_nil ?_)
        refine lk_next ⟨(tg, _) :: (ta, _) :: gs, as ++ [(ta, bd, cost)], hs', _, _, _, rfl, rfl, hal1, ?_, ?_, hr', ?_⟩
        · intro j a ha
          obtain ⟨q1, q2, t1, t2, q3⟩ := hAs1 j a ha
          exact ⟨q1, q2, t1, t2, .tail _ q3⟩
        · intro h hm
          rcases List.mem_append.mp (hp'.mem_iff.mp hm) with hm | hm
          · obtain ⟨t1, t2, q⟩ := hHs h hm
            exact ⟨t1, t2, .tail _ (.tail _ q)⟩
          · rw [List.mem_singleton.mp hm]
            exact ⟨_, _, .head _⟩
        · rw [hps]
          refine (hp'.map neg).trans ?_
          rw [List.map_append]
          refine .trans ?_ (take_ins_few (by omega)).symm
          have e : ([(tg, -cost, -(k : Int))] : List HI).map neg = [(dist x r, (k : Int))] := by simp [neg, hcd]
          rw [e]
          exact (List.perm_append_comm).trans (hperm.cons _)
      · simp only [decide_eq_false_iff_not, List.length_map] at h
        have h3 : hs.length = 3 := by omega
        obtain ⟨h0, rest, rfl, hbd2⟩ : ∃ h0 rest, hs = h0 :: rest ∧ bd = -h0.2.1 - 1 := by
          rcases hbd with ⟨h0, rest, e1, e2, e3⟩ | ⟨e, _⟩
          · exact ⟨h0, rest, e1, e3⟩
          · omega
        obtain ⟨a1, a2, a3, tl, hsrt⟩ : ∃ a1 a2 a3 tl, srt (prs x rl k) = a1 :: a2 :: a3 :: tl := by
          match hq : srt (prs x rl k) with
          | [] => rw [hq] at hsl; simp at hsl; omega
          | [_] => rw [hq] at hsl; simp at hsl; omega
          | [_, _] => rw [hq] at hsl; simp at hsl; omega
          | a1 :: a2 :: a3 :: tl => exact ⟨a1, a2, a3, tl, rfl⟩
        rw [hsrt] at hperm hsr hps
        have hup3 : Up3 ([a1, a2] ++ [a3]) := (hsr.sublist (l₁ := [a1, a2, a3]) (by simp))
        obtain ⟨e3, hrest⟩ := pop_top (init := [a1, a2]) (last := a3) hroot hup3 (by simpa using hperm)
        have ha3 : a3.2 < (k : Int) := by
          have : a3 ∈ prs x rl k := (srt_perm _).mem_iff.mp (by rw [hsrt]; simp)
          obtain ⟨j, hj, e⟩ := List.mem_map.mp this
          have := List.mem_range.mp hj
          rw [← e]; simp; omega
        have e31 : a3.1 = -h0.2.1 := by rw [← e3]
        refine s_cons ?_
        refine s_If ?_
        with_reducible ((refine' t_Compare ?_ ?hh; (case hh => with_unfolding_all rfl)); (refine' r_loc ?ee ?nn ?vv ?_; (case ee => assumption); (case nn => walk_at "has"); (case vv => walk_at "has")); (refine' r_loc ?ee ?nn ?vv ?_; (case ee => assumption); (case nn => walk_at "has"); (case vv => walk_at "has")); refine i_le ?_; refine t_bool ?_)
        refine r_if (fun h4 => ?_) (fun h4 => ?_)
        · simp only [decide_eq_true_eq] at h4
          have hcd : cost = dist x r := hc1 (by
            by_cases hlt : bd < dist x r
            · have := hc2 hlt; omega
            · omega)
          with_reducible (refine s_cons ?_; (refine' s_Expr ?_ ?hh ?gg; (case hh => exact EnvOk.inter (by assumption)); (case gg => with_unfolding_all rfl)); refine r_CallN ?_; (refine' r_glob ?ee ?nn ?vv ?_; (case ee => assumption); (case nn => walk_at "has"); (case vv => walk_at "has")); (refine' r_cw_def ?ff ?_ ?hh; (case ff => walk_at "isfn"); (case hh => with_unfolding_all rfl)); (refine' r_args ?_ ?hh; (case hh => with_unfolding_all rfl)); (refine' r_loc ?ee ?nn ?vv ?_; (case ee => assumption); (case nn => walk_at "has"); (case vv => walk_at "has")); (refine' r_args ?_ ?hh; (case hh => with_unfolding_all rfl)); refine r_Tuple ?_; (refine' r_args ?_ ?hh; (case hh => with_unfolding_all rfl)); refine r_UnaryOp ?_; (refine' r_loc ?ee ?nn ?vv ?_; (case ee => assumption); (case nn => walk_at "has"); (case vv => walk_at "has")); refine i_neg (fun _ => ?_); (refine' r_args ?_ ?hh; (case hh => with_unfolding_all rfl)); refine r_UnaryOp ?_; (refine' r_loc ?ee ?nn ?vv ?_; (case ee => assumption); (case nn => walk_at "has"); (case vv => walk_at "has")); refine i_neg (fun _ => ?_); refine r_args_nil ?_; (refine' r_newTuple ?ss (fun _ => ?_); (case ss => walk_at "side")); refine r_args_nil ?_; refine r_fn ?_)
          rename_i tg
          refine replace_call (g := (tg, -cost, -(k : Int))) (h0 := h0) (rest := rest) (by walk_at "has") (by simp at h3; omega) (fun h hm => seeH ((tg, _) :: (ta, _) :: gs) (.tail _ hm) (fun p hp => .tail _ (.tail _ hp))) ⟨_, _, seesT_nw Has.here⟩ (ok'.le (by omega)) ?_
          intro hs' nw' hp' hr' hput
          refine St.put_eq hput (Put.there (Put.there (put_app_r (Put.there Put.here)))) ?_
          with_reducible (refine n_next ?_; refine s_nil ?_; refine n_next ?_; refine s_nil ?_; refine n_next ?_; refine s_nil ?_)
          refine lk_next ⟨(tg, _) :: (ta, _) :: gs, as ++ [(ta, bd, cost)], hs', _, _, _, rfl, rfl, hal1, ?_, ?_, hr', ?_⟩
          · intro j a ha
            obtain ⟨q1, q2, t1, t2, q3⟩ := hAs1 j a ha
            exact ⟨q1, q2, t1, t2, .tail _ q3⟩
          · intro h hm
            rcases List.mem_cons.mp (hp'.mem_iff.mp hm) with rfl | hm
            · exact ⟨_, _, .head _⟩
            · obtain ⟨t1, t2, q⟩ := hHs h (.tail _ hm)
              exact ⟨t1, t2, .tail _ (.tail _ q)⟩
          · rw [hps]
            refine (hp'.map neg).trans ?_
            refine .trans ?_ (take_ins_lt hsr (by rw [plt_true]; left; show dist x r < a3.1; omega)).symm
            rw [List.map_cons]
            have e : neg (tg, -cost, -(k : Int)) = (dist x r, (k : Int)) := by simp [neg, hcd]
            rw [e]
            exact hrest.cons _
        · simp only [decide_eq_false_iff_not] at h4
          have hbd3 : bd < dist x r := by
            by_cases hlt : bd < dist x r
            · exact hlt
            · have := hc1 (by omega); omega
          with_reducible (refine s_nil ?_; refine n_next ?_; refine s_nil ?_; refine n_next ?_; refine s_nil ?_)
          refine lk_next ⟨(ta, _) :: gs, as ++ [(ta, bd, cost)], h0 :: rest, _, _, _, rfl, rfl, hal1, hAs1, ?_, hroot, ?_⟩
          · intro h hm
            obtain ⟨t1, t2, q⟩ := hHs h hm
            exact ⟨t1, t2, .tail _ q⟩
          · rw [hps, take_ins_ge hsr (by rw [plt_false]; show a3.1 < dist x r ∨ (a3.1 = dist x r ∧ a3.2 ≤ (k : Int)); omega)]
            simpa using hperm
  · rintro fr nw ⟨gs, as, hs, v5, v6, v7, rfl, rfl, hal, hAs, hHs, hroot, hperm⟩
    with_reducible (refine s_nil ?_; refine n_next ?_; refine s_cons ?_; (refine' s_Assign ?_ ?hh; (case hh => with_unfolding_all rfl)); refine r_List ?_; refine r_args_nil ?_; (refine' r_newList ?ss (fun _ => ?_); (case ss => walk_at "side")); (refine' r_store ?ee ?nn ?vv ?_; (case ee => assumption); (case nn => walk_at "has"); (case vv => walk_at "put")); refine n_next ?_; refine s_cons ?_)
    rename_i Ca
    have hup := srt_up (prs_nodup x rl rl.length)
    generalize htop : (srt (prs x rl rl.length)).take 3 = top at *
    have htu : Up3 top := by rw [← htop]; exact hup.sublist (List.take_sublist _ _)
    have htl : top.length ≤ 3 := by rw [← htop, List.length_take]; omega
    refine n_cut (fun fr nw => ∃ cv, fr = frN (some (.str (T x) t)) (some (.ref ra)) (some (.ref Ha)) (some (.ref Aa)) v5 v6 v7 (some (.ref Ca)) ∧ nw = (Ca, .list cv) :: (tupLed gs ++ [(Aa, .list (as.map fun a : AI => Value.ref a.1)), (Ha, .list ([] : List Value))]) ∧ IntsAre cv (top.map (·.2)).reverse) ?_ ?_
    · refine s_While (fun n fr nw => ∃ cv hs, fr = frN (some (.str (T x) t)) (some (.ref ra)) (some (.ref Ha)) (some (.ref Aa)) v5 v6 v7 (some (.ref Ca)) ∧ nw = (Ca, .list cv) :: (tupLed gs ++ [(Aa, .list (as.map fun a : AI => Value.ref a.1)), (Ha, .list (hs.map vref))]) ∧ hs.length = n ∧ n ≤ top.length ∧ HsOk gs hs ∧ RootMin hs ∧ (hs.map neg).Perm (top.take n) ∧ IntsAre cv ((top.drop n).map (·.2)).reverse) top.length ⟨[], hs, rfl, rfl, by have := hperm.length_eq; simpa using this, Nat.le_refl _, hHs, hroot, by rw [List.take_length]; exact hperm, by rw [List.drop_length]; exact .nil⟩ ?_
      rintro n fr nw ⟨cv, hs, rfl, rfl, hhl, hnl, hHs, hroot, hperm, hcv⟩
      with_reducible ((refine' t_val ?_ ?hh; (case hh => with_unfolding_all rfl)); (refine' r_loc ?ee ?nn ?vv ?_; (case ee => assumption); (case nn => walk_at "has"); (case vv => walk_at "has")); (refine' t_list ?ll ?ss ?_; (case ll => walk_at "sees"); (case ss => walk_at "side")))
      refine r_if (fun h => ?_) (fun h => ?_)
      · obtain ⟨h0, rest, rfl⟩ : ∃ h0 rest, hs = h0 :: rest := by
          cases hs with
          | nil => simp at h
          | cons a r => exact ⟨a, r, rfl⟩
        have hlast : ∃ last, top.take n = top.take (n - 1) ++ [last] ∧ top.drop (n - 1) = last :: top.drop n := by
          simp only [List.length_cons] at hhl
          obtain ⟨m, rfl⟩ : ∃ m, n = m + 1 := ⟨n - 1, by omega⟩
          have hm : m < top.length := by omega
          exact ⟨top[m], by rw [Nat.add_sub_cancel, List.take_add_one, List.getElem?_eq_getElem hm]; rfl, by rw [Nat.add_sub_cancel]; exact List.drop_eq_getElem_cons hm⟩
        obtain ⟨last, hl1, hl2⟩ := hlast
        obtain ⟨e3, hrest⟩ := pop_top hroot (by rw [← hl1]; exact htu.sublist (List.take_sublist _ _)) (by rw [← hl1]; exact hperm)
        obtain ⟨t1, t2, hg⟩ := hHs h0 (.head _)
        have hcl : cv.length ≤ 3 := by have := hcv.length; simp at this; omega
        with_reducible (refine s_cons ?_; (refine' s_Expr ?_ ?hh ?gg; (case hh => exact EnvOk.inter (by assumption)); (case gg => with_unfolding_all rfl)); (refine' r_Meth ?_ ?hh; (case hh => with_unfolding_all rfl)); (refine' r_loc ?ee ?nn ?vv ?_; (case ee => assumption); (case nn => walk_at "has"); (case vv => walk_at "has")); (refine' m_append ?ll ?_; (case ll => walk_at "has")); refine r_mc ?_; (refine' r_cw_meth ?_ ?hh ?gg; (case hh => with_unfolding_all rfl); (case gg => with_unfolding_all rfl)); (refine' r_args ?_ ?hh; (case hh => with_unfolding_all rfl)); refine r_UnaryOp ?_; refine r_Subscript ?_; refine r_CallN ?_; (refine' r_glob ?ee ?nn ?vv ?_; (case ee => assumption); (case nn => walk_at "has"); (case vv => walk_at "has")); (refine' r_cw_def ?ff ?_ ?hh; (case ff => walk_at "isfn"); (case hh => with_unfolding_all rfl)); (refine' r_args ?_ ?hh; (case hh => with_unfolding_all rfl)); (refine' r_loc ?ee ?nn ?vv ?_; (case ee => assumption); (case nn => walk_at "has"); (case vv => walk_at "has")); refine r_args_nil ?_; refine r_fn ?_)
        refine pop_call (h0 := h0) (rest := rest) (by walk_at "has") (by simp at hhl; omega) (fun h hm => ?_) (ok'.le (by omega)) ?_
        · obtain ⟨u1, u2, hg'⟩ := hHs h (.tail _ hm)
          exact ⟨u1, u2, seesT_nw (Has.there (has_app_l (has_of (List.mem_map_of_mem (f := fun p : Addr × List Value => (p.1, D.tup p.2)) hg'))))⟩
        · intro hs' nw' hp' hr' hput
          refine St.put_eq hput (Put.there (put_app_r (Put.there Put.here))) ?_
          with_reducible (refine r_int (fun _ => ?_))
          refine x_tup_item (vs := [.int h0.2.1 t1, .int h0.2.2 t2]) (seesT_nw (Has.there (has_app_l (has_of (List.mem_map_of_mem (f := fun p : Addr × List Value => (p.1, D.tup p.2)) hg))))) (by omega) (by omega) (v := .int h0.2.2 t2) rfl ?_
          with_reducible (refine i_neg (fun _ => ?_); refine r_args_nil ?_)
          refine c_append Has.here (by omega) Put.here ?_
          with_reducible (refine n_next ?_; refine s_nil ?_)
          refine wk_next (n - 1) ⟨_, hs', rfl, rfl, by have := hp'.length_eq; simp at hhl; omega, by omega, fun h hm => hHs h (.tail _ (hp'.mem_iff.mp hm)), hr', (hp'.map neg).trans hrest, ?_⟩ (by simp at hhl; omega)
          rw [hl2, List.map_cons, List.reverse_cons]
          have e4 : last.2 = -h0.2.2 := by rw [← e3]
          rw [e4]
          exact hcv.append (.cons _ _ .nil)
      · have hs0 : hs = [] := by simpa using h
        subst hs0
        simp at hhl
        subst hhl
        with_reducible (refine s_nil ?_)
        refine ck_next ⟨cv, rfl, rfl, by simpa using hcv⟩ (Keeps.rfl' _)
    · rintro fr nw ⟨cv, rfl, rfl, hcv⟩
      have hcl : cv.length ≤ 3 := by have := hcv.length; simp at this; omega
      with_reducible (refine s_cons ?_; refine s_Return ?_; refine r_Tuple ?_; (refine' r_args ?_ ?hh; (case hh => with_unfolding_all rfl)); (refine' r_loc ?ee ?nn ?vv ?_; (case ee => assumption); (case nn => walk_at "has"); (case vv => walk_at "has")); (refine' r_args ?_ ?hh; (case hh => with_unfolding_all rfl)); refine r_Subscript ?_; (refine' r_loc ?ee ?nn ?vv ?_; (case ee => assumption); (case nn => walk_at "has"); (case vv => walk_at "has")))
      refine r_Slice3 ?_
      with_reducible (refine r_part0 ?_; refine r_part0 ?_; refine r_UnaryOp ?_; refine r_int (fun _ => ?_); refine i_neg (fun _ => ?_))
      refine r_SlK3 fun _ => ?_
      refine x_list_rev (seesL_nw Has.here) (by omega) fun Ra => ?_
      with_reducible (refine r_args_nil ?_; (refine' r_newTuple ?ss (fun _ => ?_); (case ss => walk_at "side")); refine n_ret ?_)
      rename_i tt
      intro s' hs'
      obtain ⟨ot, h1, ⟨n1, rfl⟩, _, f1⟩ := hs'.N (tt, _) (.head _)
      obtain ⟨oR, h2, ⟨n2, rfl⟩, _, f2⟩ := hs'.N (Ra, _) (.tail _ (.head _))
      obtain ⟨oA, h3, ⟨n3, rfl⟩, _, f3⟩ := hs'.N (Aa, .list (as.map fun a : AI => Value.ref a.1)) (by simp)
      have hgs : ∀ p ∈ gs, (p.1, D.tup p.2) ∈ ((tt, D.tup [Value.ref Aa, Value.ref Ra]) :: (Ra, D.list cv.reverse) :: (Ca, D.list cv) :: (tupLed gs ++ [(Aa, D.list (as.map fun a : AI => Value.ref a.1)), (Ha, D.list ([] : List Value))])) := by
        intro p hp
        exact .tail _ (.tail _ (.tail _ (List.mem_append_left _ (List.mem_map_of_mem (f := fun p : Addr × List Value => (p.1, D.tup p.2)) hp))))
      refine k gs as Aa Ra cv.reverse tt s' hs'.toKeeps ?_ ⟨_, h1, rfl, n1, rfl⟩ ⟨_, h3, rfl, n3, rfl⟩ ⟨_, h2, rfl, n2, rfl⟩ ?_ hal hAs ?_
      · rintro a (rfl | rfl | rfl | ⟨p, hp, rfl⟩)
        · exact f3
        · exact f2
        · exact f1
        · obtain ⟨_, _, _, _, f⟩ := hs'.N _ (hgs p hp)
          exact f
      · intro p hp
        obtain ⟨o, q1, ⟨n, rfl⟩, _⟩ := hs'.N _ (hgs p hp)
        exact ⟨_, q1, rfl, n, rfl⟩
      · have e : (top.map (·.2)) = ((top.map (·.2)).reverse).reverse := by simp
        rw [e]
        exact ints_rev hcv
end

-- F6
section
variable {prog : Program} {w : World} {A : Around} {E : Value → Shared → Prop} {Q : Value → Shared → Prop}
theorem near_call {L : Addr} {b : Shared} {fr : Frm} {nw : Led} {x : List Nat} {t : Tok} {ra : Addr} {vs : List Value} {rl : List (List Nat)} (hx : ∀ c ∈ x, c < 128) (hxl : x.length ≤ 20) (hrl : ∀ r ∈ rl, (∀ c ∈ r, c < 128) ∧ r.length ≤ 20) (hn : rl.length < 100) (hV : StrsAre vs (rl.map T)) (hL : SeesL w L b fr nw ra vs) (ok : Ok A 4)
    (k : ∀ gs as Aa Ra rv tt b', Keeps b b' → b'.heap.IsTuple tt #[.ref Aa, .ref Ra] → b'.heap.IsList Aa (as.map fun a : AI => Value.ref a.1).toArray → b'.heap.IsList Ra (rv : List Value).toArray → (∀ p ∈ gs, b'.heap.IsTuple p.1 p.2.toArray) →
      as.length = rl.length → AsOk x rl gs as → IntsAre rv (((srt (prs x rl rl.length)).take 3).map (·.2)) → St w L b' fr nw (Q (.ref tt))) :
    St w L b fr nw (wpAny (model prog w) A (call (.ref 136) [.str (T x) t, .ref ra]) Q E) := fun s hs => by
  refine near_spec hx hxl hrl hn hV (hL s hs) ok hs.gds fun gs as Aa Ra rv tt s' kk hfr h1 h2 h3 h4 h5 h6 h7 => ?_
  have hat := hs.keeps kk
  obtain ⟨b', kb, hb', hfz⟩ := hat.freeze (nf := nw) (fun _ hp => hp) hat.ndn
  obtain ⟨m, ⟨oL, _, _, hoL, _⟩, _⟩ := hs.ns
  have up : ∀ a o, s.heap.get? a = none → s'.heap.get? a = some o → b'.heap.get? a = some o := fun a o hn e => by
    refine hfz a o (fun q => ?_) (fun p hp q => ?_) e
    · rw [q, hoL] at hn; cases hn
    · obtain ⟨o', e', _⟩ := hs.N p hp
      rw [q, hn] at e'; cases e'
  obtain ⟨o1, e1, r1⟩ := h1
  obtain ⟨o2, e2, r2⟩ := h2
  obtain ⟨o3, e3, r3⟩ := h3
  refine k gs as Aa Ra rv tt b' kb ⟨o1, up _ _ (hfr tt (by simp)) e1, r1⟩ ⟨o2, up _ _ (hfr Aa (by simp)) e2, r2⟩ ⟨o3, up _ _ (hfr Ra (by simp)) e3, r3⟩ (fun p hp => ?_) h5 h6 h7 s' hb'
  obtain ⟨o4, e4, r4⟩ := h4 p hp
  exact ⟨o4, up _ _ (hfr p.1 (.inr (.inr (.inr ⟨p, hp, rfl⟩)))) e4, r4⟩
end

/-- a made list goes into the base -/
theorem St.store {w : World} {L a : Addr} {b : Shared} {fr : Frm} {nw : Led} {vs : List Value} {R : Shared → Prop} (h : ∀ b', Keeps b b' → b'.heap.IsList a vs.toArray → St w L b' fr nw R) : St w L b fr ((a, .list vs) :: nw) R := fun s hs => by
  have nd := hs.ndn
  simp only [List.map_cons, List.nodup_cons] at nd
  obtain ⟨b', kb, hb', hfz⟩ := hs.freeze (nf := nw) (fun _ hp => .tail _ hp) nd.2
  obtain ⟨o, e1, ⟨n, rfl⟩, e3, _⟩ := hs.N _ (.head _)
  exact h b' kb ⟨_, hfz a _ e3 (fun p hp q => nd.1 (q ▸ List.mem_map_of_mem hp)) e1, rfl, n, rfl⟩ s hb'
theorem isList_mono {b b' : Shared} {a : Addr} {vs : Array Value} (h : b.heap.IsList a vs) (k : Keeps b b') : b'.heap.IsList a vs := let ⟨o, ho, r⟩ := h; ⟨o, Keeps.le k _ _ ho, r⟩
theorem isTuple_mono {b b' : Shared} {a : Addr} {vs : Array Value} (h : b.heap.IsTuple a vs) (k : Keeps b b') : b'.heap.IsTuple a vs := let ⟨o, ho, r⟩ := h; ⟨o, Keeps.le k _ _ ho, r⟩
theorem ints_slice {vs : List Value} {xs : List Int} (h : IntsAre vs xs) (lo hi : Option Int) : IntsAre (pySl vs lo hi) (pySl xs lo hi) := by
  have key : ∀ {vs : List Value} {xs : List Int}, IntsAre vs xs → ∀ n, IntsAre (vs.take n) (xs.take n) ∧ IntsAre (vs.drop n) (xs.drop n) := by
    intro vs xs h
    induction h with
    | nil => intro n; simp; exact .nil
    | cons m t r ih =>
      intro n
      cases n with
      | zero => exact ⟨.nil, .cons m t r⟩
      | succ n => exact ⟨.cons m t (ih n).1, (ih n).2⟩
  unfold pySl
  rw [h.length]
  exact (key (key h _).1 _).2
section
variable {prog : Program} {w : World} {A : Around} {E : Value → Shared → Prop} {s : Shared} {Q : Value → Shared → Prop}
abbrev nsW : List (Str × NameKind) := [("script", .local), ("rights", .local), ("rows", .local), ("faults", .local), ("typed", .cell), ("costs", .cell), ("asked", .local), ("came", .local), ("told", .local), ("len", .globalImplicit), ("_law_typed", .globalImplicit), ("_law_row", .globalImplicit), ("_law_nearest", .globalImplicit), ("sorted", .globalImplicit), ("range", .globalImplicit), ("zip", .globalImplicit)]
/-- the rights looked at -/
def rts (xs : List Int) : List Nat := (pySl xs (some 3) (some 6) ++ [420, 4095, 2541, 1517, 64]).map fun x : Int => (x.fmod 4096).toNat
theorem rts_lt (xs : List Int) : ∀ r ∈ rts xs, r < 4096 := by
  intro r hr
  obtain ⟨x, _, rfl⟩ := List.mem_map.mp hr
  have := Int.fmod_lt_of_pos x (b := 4096) (by omega)
  have := Int.fmod_nonneg_of_pos x (b := 4096) (by omega)
  omega
theorem rts_len (xs : List Int) : 5 ≤ (rts xs).length ∧ (rts xs).length ≤ 8 := by
  have h : (pySl xs (some 3) (some 6)).length ≤ 3 := by unfold pySl clipLo clipHi; simp; omega
  unfold rts
  rw [List.length_map, List.length_append]
  simp only [List.length_cons, List.length_nil]
  omega
abbrev frW (v1 v2 v3 v4 v5 v6 v7 : Option Value) : Frm := [("script", v1), ("rights", v2), ("rows", v3), ("faults", v4), ("asked", v5), ("came", v6), ("told", v7)]
abbrev KW (Q : Value → Shared → Prop) (fl : Flow) (s' : Shared) : Prop := Q (match fl with | .ret v => v | _ => .none) s'
abbrev cells2 (L : Addr) (v1 v2 : Option Value) : Led := [(L + 2, .cell v1), (L + 1, .cell v2)]
theorem law_1 {env : Env} {b : Shared} {sc : Addr} {vs : List Value} {xs : List Int} (hI : IntsAre vs xs) (hxl : xs.length < 100) (hL : b.heap.IsList sc vs.toArray) (hE : EnvOk env nsW) (hcs : env.cells = [(Str.ofString "costs", env.locals + 2), (Str.ofString "typed", env.locals + 1)]) (hh : A.handled = none)
    (k : ∀ b' R rv, Keeps b b' → b'.heap.IsList R rv.toArray → IntsAre rv ((rts xs).map fun r : Nat => (r : Int)) → St w env.locals b' (frW (some (.ref sc)) (some (.ref R)) none none none none none) (cells2 env.locals none none) (wpAny (model prog w) A (execs ((bodyOf 141).drop 1) env) (KW Q) FF)) :
    St w env.locals b (frW (some (.ref sc)) none none none none none none) (cells2 env.locals none none) (wpAny (model prog w) A (execs (bodyOf 141) env) (KW Q) FF) := by
  with_unfolding_all show St _ _ _ _ _ (wpAny _ _ (execs (_ :: _) _) _ _)
  have hvl := hI.length
  refine s_cons ?_
  refine s_AssignComp ?_ (swaps_true hE (by walk_at "has") rfl (by kernel_rfl)) (by intro _; with_unfolding_all rfl) (by rw [hcs]; with_unfolding_all rfl) rfl (by kernel_rfl)
  with_reducible (refine r_BinOp ?_; refine r_Subscript ?_; (refine' r_loc ?ee ?nn ?vv ?_; (case ee => assumption); (case nn => walk_at "has"); (case vv => walk_at "has")); refine r_Slice ?_; refine r_part ?_; refine r_int (fun _ => ?_); refine r_part ?_; refine r_int (fun _ => ?_); refine r_SlK (fun _ => ?_))
  refine x_list_slice (seesL_b hL) (by omega) (.int _ _) (.int _ _) fun c1 => ?_
  with_reducible (refine r_List ?_; (refine' r_args ?_ ?hh; (case hh => with_unfolding_all rfl)); refine r_int (fun _ => ?_); (refine' r_args ?_ ?hh; (case hh => with_unfolding_all rfl)); refine r_int (fun _ => ?_); (refine' r_args ?_ ?hh; (case hh => with_unfolding_all rfl)); refine r_int (fun _ => ?_); (refine' r_args ?_ ?hh; (case hh => with_unfolding_all rfl)); refine r_int (fun _ => ?_); (refine' r_args ?_ ?hh; (case hh => with_unfolding_all rfl)); refine r_int (fun _ => ?_); refine r_args_nil ?_; (refine' r_newList ?ss (fun _ => ?_); (case ss => walk_at "side")))
  have hsl : (pySl vs (some 3) (some 6)).length ≤ vs.length := pySl_le _ _ _
  refine i_ladd (seesL_nw (by walk_at "has")) (seesL_nw (by walk_at "has")) (by simp only [List.length_cons, List.length_nil]; omega) fun c2 => ?_
  generalize hlv : pySl vs (some 3) (some 6) ++ _ = lv
  have hIl : IntsAre lv (pySl xs (some 3) (some 6) ++ [420, 4095, 2541, 1517, 64]) := by
    rw [← hlv]
    exact (ints_slice hI _ _).append (.cons _ _ (.cons _ _ (.cons _ _ (.cons _ _ (.cons _ _ .nil)))))
  have hll : lv.length = (rts xs).length := by rw [hIl.length]; simp [rts]
  have hrl := rts_len xs
  refine it_list hh (.inl ⟨_, _, rfl⟩) (seesL_nw (by walk_at "has")) (itr_use (by omega) hE (by walk_at "has") [(".0", .local), ("x", .local)] (by kernel_rfl) rfl (by walk_at "nd")
    [("x", none)] rfl (by walk_at "nd") (fun _ => []) (fun _ => []) (fun C => by rw [hcs]; with_unfolding_all rfl) (.inl ⟨rfl, fun h => by with_unfolding_all rfl⟩)
    (fun C i fr nw' ys => ∃ vx : Option Value, fr = ([(Str.ofString "x", vx)] : Frm) ∧ nw' = [] ∧ IntsAre ys (((rts xs).take i).map fun r : Nat => (r : Int)))
    (fun C => ⟨none, rfl, rfl, .nil⟩) ?_ ?_)
  · rintro D cenv i v ov fr' nw' ys b' hEc hcc hi ⟨hv, rfl⟩ _ ⟨vx, rfl, rfl, hys⟩ hup hyl
    obtain ⟨z, tz, rfl⟩ := ints_at hIl hv
    have hz : (pySl xs (some 3) (some 6) ++ [420, 4095, 2541, 1517, 64])[i]? = some z := by
      obtain ⟨z', hz'⟩ : ∃ z', (pySl xs (some 3) (some 6) ++ [420, 4095, 2541, 1517, 64])[i]? = some z' := ⟨_, List.getElem?_eq_getElem (by rw [← hIl.length]; exact hi)⟩
      obtain ⟨t', ht'⟩ := hIl.get i z' hz'
      rw [hv] at ht'
      cases ht'
      exact hz'
    with_reducible (refine a_Name ?_; (refine' r_store ?ee ?nn ?vv ?_; (case ee => assumption); (case nn => walk_at "has"); (case vv => walk_at "put")); refine r_BinOp ?_; (refine' r_loc ?ee ?nn ?vv ?_; (case ee => assumption); (case nn => walk_at "has"); (case vv => walk_at "has")); refine r_int (fun _ => ?_); (refine' i_mod ?ss (fun _ => ?_); (case ss => walk_at "side")))
    refine ek ⟨_, rfl, rfl, ?_⟩
    have hr : (rts xs)[i]? = some (z.fmod 4096).toNat := by unfold rts; rw [List.getElem?_map, hz]; rfl
    rw [List.take_add_one, hr, List.map_append]
    have e : ((z.fmod 4096).toNat : Int) = z.fmod 4096 := Int.toNat_of_nonneg (Int.fmod_nonneg_of_pos z (by omega))
    show IntsAre _ (_ ++ [((z.fmod 4096).toNat : Int)])
    rw [e]
    exact hys.append (.cons _ _ .nil)
  · rintro D C fr' nw' ys ⟨vx, rfl, rfl, hys⟩ hyl
    refine ⟨_, by walk_at "put", ?_⟩
    rw [hll, List.take_length] at hys
    refine n_next ?_
    refine St.store fun b' kb hR => ?_
    refine St.subperm ⟨_, .refl _, ?_⟩ (k b' D ys kb hR hys)
    exact .cons _ (.cons _ (.cons _ (.refl _)))
end

-- F7
theorem lrow_len (r : Nat) : (lrow r).length = 6 := rfl
theorem tri_lt (a c : Nat) : ∀ d ∈ tri a c, d < 128 := by
  have h1 : ∀ (l : List Nat) (j : Nat), (∀ d ∈ l, d < 128) → l.getD j 0 < 128 := by
    intro l j h
    rw [List.getD_eq_getElem?_getD]
    cases q : l[j]? with
    | none => simp
    | some d => simpa using h d (List.mem_of_getElem? q)
  intro d hd
  unfold tri at hd
  simp only [List.mem_cons, List.not_mem_nil, or_false] at hd
  rcases hd with rfl | rfl | rfl <;> exact h1 _ _ (by decide)
theorem lrow_lt (r : Nat) : ∀ d ∈ lrow r, d < 128 := by
  intro d hd
  unfold lrow at hd
  rcases List.mem_append.mp hd with hd | hd <;> exact tri_lt _ _ d hd
theorem signs_sl {r : Nat} (hr : r < 4096) : pySl (signs (32768 + (r : Int))) (some 1) (some 7) = lrow r := by
  rw [← signs_row hr]
  unfold pySl
  have h1 : clipHi (some 7) 10 = 7 := by decide
  have h2 : clipLo (some 1) 10 = 1 := by decide
  rw [signs_len, h1, h2]
section
variable {prog : Program} {w : World} {A : Around} {E : Value → Shared → Prop} {s : Shared} {Q : Value → Shared → Prop}
theorem law_2 {env : Env} {b : Shared} {sc R : Addr} {rv : List Value} {xs : List Int} (hR : b.heap.IsList R rv.toArray) (hrv : IntsAre rv ((rts xs).map fun r : Nat => (r : Int))) (hE : EnvOk env nsW) (hcs : env.cells = [(Str.ofString "costs", env.locals + 2), (Str.ofString "typed", env.locals + 1)]) (ok : Ok A 4)
    (k : ∀ b' W wv, Keeps b b' → b'.heap.IsList W wv.toArray → StrsAre wv ((rts xs).map fun r => T (lrow r)) → St w env.locals b' (frW (some (.ref sc)) (some (.ref R)) (some (.ref W)) none none none none) (cells2 env.locals none none) (wpAny (model prog w) A (execs ((bodyOf 141).drop 2) env) (KW Q) FF)) :
    St w env.locals b (frW (some (.ref sc)) (some (.ref R)) none none none none none) (cells2 env.locals none none) (wpAny (model prog w) A (execs ((bodyOf 141).drop 1) env) (KW Q) FF) := by
  with_unfolding_all show St _ _ _ _ _ (wpAny _ _ (execs (_ :: _) _) _ _)
  have hh := ok.handled
  have hrl := rts_len xs
  have hll : rv.length = (rts xs).length := by rw [hrv.length]; simp
  refine s_cons ?_
  refine s_AssignComp ?_ (swaps_true hE (by walk_at "has") rfl (by kernel_rfl)) (by intro _; with_unfolding_all rfl) (by rw [hcs]; with_unfolding_all rfl) rfl (by kernel_rfl)
  with_reducible ((refine' r_loc ?ee ?nn ?vv ?_; (case ee => assumption); (case nn => walk_at "has"); (case vv => walk_at "has")))
  refine it_list hh (.inl ⟨_, _, rfl⟩) (seesL_b hR) (itr_use (by omega) hE (by walk_at "has") [(".0", .local), ("one", .local), ("filemode", .globalImplicit), ("S_IFREG", .globalImplicit)] (by kernel_rfl) rfl (by walk_at "nd")
    [("one", none)] rfl (by walk_at "nd") (fun _ => []) (fun _ => []) (fun C => by rw [hcs]; with_unfolding_all rfl) (.inl ⟨rfl, fun h => by with_unfolding_all rfl⟩)
    (fun C i fr nw' ys => ∃ vx : Option Value, fr = ([(Str.ofString "one", vx)] : Frm) ∧ nw' = [] ∧ StrsAre ys (((rts xs).take i).map fun r => T (lrow r)))
    (fun C => ⟨none, rfl, rfl, .nil⟩) ?_ ?_)
  · rintro D cenv i v ov fr' nw' ys b' hEc hcc hi ⟨hv, rfl⟩ _ ⟨vx, rfl, rfl, hys⟩ hup hyl
    obtain ⟨r, hr⟩ : ∃ r, (rts xs)[i]? = some r := ⟨_, List.getElem?_eq_getElem (by omega)⟩
    have hr4 := rts_lt xs r (List.mem_of_getElem? hr)
    obtain ⟨tz, htz⟩ := hrv.get i (r : Int) (by simp [hr])
    rw [hv] at htz
    cases htz
    with_reducible (refine a_Name ?_; (refine' r_store ?ee ?nn ?vv ?_; (case ee => assumption); (case nn => walk_at "has"); (case vv => walk_at "put")); refine r_Subscript ?_; refine r_CallN ?_; (refine' r_glob ?ee ?nn ?vv ?_; (case ee => assumption); (case nn => walk_at "has"); (case vv => walk_at "has")); (refine' r_cw_def ?ff ?_ ?hh; (case ff => walk_at "isfn"); (case hh => with_unfolding_all rfl)); (refine' r_args ?_ ?hh; (case hh => with_unfolding_all rfl)); refine r_BinOp ?_; (refine' r_glob ?ee ?nn ?vv ?_; (case ee => assumption); (case nn => walk_at "has"); (case vv => walk_at "has")); (refine' r_loc ?ee ?nn ?vv ?_; (case ee => assumption); (case nn => walk_at "has"); (case vv => walk_at "has")); refine i_add (fun _ => ?_); refine r_args_nil ?_; refine r_fn ?_)
    refine fmode_call (ok.le (by omega)) (fun _ => ?_)
    have hsl : (signs (32768 + (r : Int))).length = 10 := signs_len _
    with_reducible (refine r_Slice ?_; refine r_part ?_; refine r_int (fun _ => ?_); refine r_part ?_; refine r_int (fun _ => ?_); refine r_SlK (fun _ => ?_); (refine' x_sl_ss ?ss (fun _ => ?_) ?hh; (case ss => walk_at "side"); (case hh => with_unfolding_all rfl)))
    rw [signs_sl hr4]
    refine ek ⟨_, rfl, rfl, ?_⟩
    rw [List.take_add_one, hr, List.map_append]
    exact strs_snoc hys
  · rintro D C fr' nw' ys ⟨vx, rfl, rfl, hys⟩ hyl
    refine ⟨_, by walk_at "put", ?_⟩
    rw [hll, List.take_length] at hys
    refine n_next ?_
    exact St.store fun b' kb hW => k b' D ys kb hW hys
theorem law_3 {env : Env} {b : Shared} {sc R W : Addr} {vs : List Value} {xs : List Int} (hI : IntsAre vs xs) (hxl : xs.length < 100) (hL : b.heap.IsList sc vs.toArray) (hE : EnvOk env nsW) (hh : A.handled = none)
    (k : ∀ b' F fv fx, Keeps b b' → b'.heap.IsList F fv.toArray → IntsAre fv fx → fx.length ≤ 4 → St w env.locals b' (frW (some (.ref sc)) (some (.ref R)) (some (.ref W)) (some (.ref F)) none none none) (cells2 env.locals none none) (wpAny (model prog w) A (execs ((bodyOf 141).drop 3) env) (KW Q) FF)) :
    St w env.locals b (frW (some (.ref sc)) (some (.ref R)) (some (.ref W)) none none none none) (cells2 env.locals none none) (wpAny (model prog w) A (execs ((bodyOf 141).drop 2) env) (KW Q) FF) := by
  with_unfolding_all show St _ _ _ _ _ (wpAny _ _ (execs (_ :: _) _) _ _)
  have hvl := hI.length
  have h13 : (pySl vs (some 1) (some 3)).length ≤ 2 := by unfold pySl clipLo clipHi; simp; omega
  with_reducible (refine s_cons ?_; (refine' s_Assign ?_ ?hh; (case hh => with_unfolding_all rfl)); refine r_BinOp ?_; refine r_Subscript ?_; (refine' r_loc ?ee ?nn ?vv ?_; (case ee => assumption); (case nn => walk_at "has"); (case vv => walk_at "has")); refine r_Slice ?_; refine r_part ?_; refine r_int (fun _ => ?_); refine r_part ?_; refine r_int (fun _ => ?_); refine r_SlK (fun _ => ?_))
  refine x_list_slice (seesL_b hL) (by omega) (.int _ _) (.int _ _) fun c1 => ?_
  with_reducible (refine r_Subscript ?_; refine r_List ?_; (refine' r_args ?_ ?hh; (case hh => with_unfolding_all rfl)); refine r_int (fun _ => ?_); (refine' r_args ?_ ?hh; (case hh => with_unfolding_all rfl)); refine r_int (fun _ => ?_); refine r_args_nil ?_; (refine' r_newList ?ss (fun _ => ?_); (case ss => walk_at "side")); refine r_Slice ?_; refine r_part ?_; refine r_CallN ?_; (refine' r_glob ?ee ?nn ?vv ?_; (case ee => assumption); (case nn => walk_at "has"); (case vv => walk_at "has")); (refine' r_cw_builtin ?_ ?hh ?gg; (case hh => with_unfolding_all rfl); (case gg => with_unfolding_all rfl)); (refine' r_args ?_ ?hh; (case hh => with_unfolding_all rfl)); refine r_Subscript ?_; (refine' r_loc ?ee ?nn ?vv ?_; (case ee => assumption); (case nn => walk_at "has"); (case vv => walk_at "has")); refine r_Slice ?_; refine r_part ?_; refine r_int (fun _ => ?_); refine r_part ?_; refine r_int (fun _ => ?_); refine r_SlK (fun _ => ?_))
  refine x_list_slice (seesL_b hL) (by omega) (.int _ _) (.int _ _) fun c2 => ?_
  with_reducible (refine r_args_nil ?_; (refine' c_len_list ?ll ?ss (fun _ => ?_); (case ll => walk_at "sees"); (case ss => walk_at "side")); refine r_part0 ?_; refine r_SlK (fun _ => ?_))
  refine x_list_slice (seesL_nw (by walk_at "has")) (by simp) (.int _ _) .none fun c3 => ?_
  generalize hl3 : pySl ([Value.int 5 _, Value.int 14 _] : List Value) (some ((pySl vs (some 1) (some 3)).length : Int)) none = l3
  have hI3 : IntsAre l3 (pySl [5, 14] (some ((pySl vs (some 1) (some 3)).length : Int)) none) := by
    rw [← hl3]; exact ints_slice (.cons _ _ (.cons _ _ .nil)) _ _
  have h3l : l3.length ≤ 2 := by rw [← hl3]; exact Nat.le_trans (pySl_le _ _ _) (by simp)
  refine i_ladd (seesL_nw (by walk_at "has")) (seesL_nw (by walk_at "has")) (by omega) fun F => ?_
  with_reducible ((refine' r_store ?ee ?nn ?vv ?_; (case ee => assumption); (case nn => walk_at "has"); (case vv => walk_at "put")); refine n_next ?_)
  refine St.store fun b' kb hF => ?_
  refine St.subperm ⟨_, .refl _, ?_⟩ (k b' F _ _ kb hF ((ints_slice hI _ _).append hI3) (by rw [← ((ints_slice hI (some 1) (some 3)).append hI3).length, List.length_append]; omega))
  repeat (first | exact .refl _ | refine .cons _ ?_)
theorem law_4 {env : Env} {b : Shared} {sc R W F : Addr} {vs rv fv : List Value} {xs fx : List Int} (hI : IntsAre vs xs) (hxl : xs.length < 100) (hL : b.heap.IsList sc vs.toArray) (hR : b.heap.IsList R rv.toArray) (hrv : IntsAre rv ((rts xs).map fun r : Nat => (r : Int))) (hF : b.heap.IsList F fv.toArray) (hfv : IntsAre fv fx) (hfl : fx.length ≤ 4)
    (hE : EnvOk env nsW) (hcs : env.cells = [(Str.ofString "costs", env.locals + 2), (Str.ofString "typed", env.locals + 1)]) (ok : Ok A 4)
    (k : ∀ ty tt, (∀ c ∈ ty, c < 128) → ty.length ≤ 20 → St w env.locals b (frW (some (.ref sc)) (some (.ref R)) (some (.ref W)) (some (.ref F)) none none none) (cells2 env.locals none (some (.str (T ty) tt))) (wpAny (model prog w) A (execs ((bodyOf 141).drop 4) env) (KW Q) FF)) :
    St w env.locals b (frW (some (.ref sc)) (some (.ref R)) (some (.ref W)) (some (.ref F)) none none none) (cells2 env.locals none none) (wpAny (model prog w) A (execs ((bodyOf 141).drop 3) env) (KW Q) FF) := by
  with_unfolding_all show St _ _ _ _ _ (wpAny _ _ (execs (_ :: _) _) _ _)
  have hvl := hI.length
  have hrl := rts_len xs
  have hll : rv.length = (rts xs).length := by rw [hrv.length]; simp
  have h01 : (pySl vs none (some 1)).length ≤ 1 := by unfold pySl clipLo clipHi; simp; omega
  with_reducible (refine s_cons ?_; (refine' s_Assign ?_ ?hh; (case hh => with_unfolding_all rfl)); refine r_CallN ?_; (refine' r_glob ?ee ?nn ?vv ?_; (case ee => assumption); (case nn => walk_at "has"); (case vv => walk_at "has")); (refine' r_cw_def ?ff ?_ ?hh; (case ff => walk_at "isfn"); (case hh => with_unfolding_all rfl)); (refine' r_args ?_ ?hh; (case hh => with_unfolding_all rfl)); refine r_CallN ?_; (refine' r_glob ?ee ?nn ?vv ?_; (case ee => assumption); (case nn => walk_at "has"); (case vv => walk_at "has")); (refine' r_cw_def ?ff ?_ ?hh; (case ff => walk_at "isfn"); (case hh => with_unfolding_all rfl)); (refine' r_args ?_ ?hh; (case hh => with_unfolding_all rfl)); refine r_Subscript ?_; (refine' r_loc ?ee ?nn ?vv ?_; (case ee => assumption); (case nn => walk_at "has"); (case vv => walk_at "has")); refine r_BinOp ?_; refine r_Subscript ?_; refine r_BinOp ?_; refine r_Subscript ?_; (refine' r_loc ?ee ?nn ?vv ?_; (case ee => assumption); (case nn => walk_at "has"); (case vv => walk_at "has")); refine r_Slice ?_; refine r_part0 ?_; refine r_part ?_; refine r_int (fun _ => ?_); refine r_SlK (fun _ => ?_))
  refine x_list_slice (seesL_b hL) (by omega) .none (.int _ _) fun c1 => ?_
  with_reducible (refine r_List ?_; (refine' r_args ?_ ?hh; (case hh => with_unfolding_all rfl)); refine r_int (fun _ => ?_); refine r_args_nil ?_; (refine' r_newList ?ss (fun _ => ?_); (case ss => walk_at "side")))
  refine i_ladd (seesL_nw (by walk_at "has")) (seesL_nw (by walk_at "has")) (by simp; omega) fun c2 => ?_
  generalize hl3 : pySl vs none (some 1) ++ _ = l3
  have hI3 : IntsAre l3 (pySl xs none (some 1) ++ [2]) := by rw [← hl3]; exact (ints_slice hI _ _).append (.cons _ _ .nil)
  obtain ⟨v0, hv0⟩ : ∃ v0, l3[0]? = some v0 := ⟨_, List.getElem?_eq_getElem (by rw [hI3.length]; simp)⟩
  obtain ⟨z, tz, rfl⟩ := ints_at hI3 hv0
  with_reducible (refine r_int (fun _ => ?_))
  refine x_list_item (seesL_nw (by walk_at "has")) (by omega) (by omega) (v := .int z tz) hv0 ?_
  with_reducible (refine r_CallN ?_; (refine' r_glob ?ee ?nn ?vv ?_; (case ee => assumption); (case nn => walk_at "has"); (case vv => walk_at "has")); (refine' r_cw_builtin ?_ ?hh ?gg; (case hh => with_unfolding_all rfl); (case gg => with_unfolding_all rfl)); (refine' r_args ?_ ?hh; (case hh => with_unfolding_all rfl)); (refine' r_loc ?ee ?nn ?vv ?_; (case ee => assumption); (case nn => walk_at "has"); (case vv => walk_at "has")); refine r_args_nil ?_; (refine' c_len_list ?ll ?ss (fun _ => ?_); (case ll => walk_at "sees"); (case ss => walk_at "side")); (refine' i_mod ?ss (fun _ => ?_); (case ss => walk_at "side")))
  have hm1 := Int.fmod_nonneg_of_pos z (b := (rv.length : Int)) (by omega)
  have hm2 := Int.fmod_lt_of_pos z (b := (rv.length : Int)) (by omega)
  obtain ⟨r, hr⟩ : ∃ r, (rts xs)[(z.fmod (rv.length : Int)).toNat]? = some r := ⟨_, List.getElem?_eq_getElem (by omega)⟩
  obtain ⟨t1, ht1⟩ := hrv.get (z.fmod (rv.length : Int)).toNat (r : Int) (by simp [hr])
  refine x_list_item (seesL_b hR) hm1 (by omega) (v := .int (r : Int) t1) ht1 ?_
  with_reducible (refine r_args_nil ?_; refine r_fn ?_)
  refine row_call (rts_lt xs r (List.mem_of_getElem? hr)) (ok.le (by omega)) (fun _ => ?_)
  with_reducible ((refine' r_args ?_ ?hh; (case hh => with_unfolding_all rfl)); (refine' r_loc ?ee ?nn ?vv ?_; (case ee => assumption); (case nn => walk_at "has"); (case vv => walk_at "has")); refine r_args_nil ?_; refine r_fn ?_)
  refine typed_call (by rw [lrow_len]; omega) (lrow_lt r) (by omega) hfv (seesL_b hF) (ok.le (by omega)) (fun ty tt h1 h2 => ?_)
  with_reducible ((refine' r_storeCel ?ee ?nn ?cc ?hc ?nd ?vv ?pp ?_; (case ee => assumption); (case nn => walk_at "has"); (case cc => assumption); (case hc => walk_at "has"); (case nd => walk_at "nd"); (case vv => walk_at "has"); (case pp => walk_at "put")); refine n_next ?_)
  rw [lrow_len] at h2
  refine St.subperm ⟨_, .refl _, ?_⟩ (k ty tt h1 (by omega))
  repeat (first | exact .refl _ | refine .cons _ ?_)
end

-- F8
section
variable {prog : Program} {w : World} {A : Around} {E : Value → Shared → Prop} {s : Shared} {Q : Value → Shared → Prop}
theorem law_5 {env : Env} {b : Shared} {sc R W F : Addr} {rv wv : List Value} {xs : List Int} {ty : List Nat} {tt : Tok} (hR : b.heap.IsList R rv.toArray) (hrv : IntsAre rv ((rts xs).map fun r : Nat => (r : Int))) (hW : b.heap.IsList W wv.toArray) (hwv : StrsAre wv ((rts xs).map fun r => T (lrow r)))
    (hE : EnvOk env nsW) (hcs : env.cells = [(Str.ofString "costs", env.locals + 2), (Str.ofString "typed", env.locals + 1)]) (ok : Ok A 4)
    (k : St w env.locals b (frW (some (.ref sc)) (some (.ref R)) (some (.ref W)) (some (.ref F)) none none none) (cells2 env.locals none (some (.str (T ty) tt))) (wpAny (model prog w) A (execs ((bodyOf 141).drop 5) env) (KW Q) FF)) :
    St w env.locals b (frW (some (.ref sc)) (some (.ref R)) (some (.ref W)) (some (.ref F)) none none none) (cells2 env.locals none (some (.str (T ty) tt))) (wpAny (model prog w) A (execs ((bodyOf 141).drop 4) env) (KW Q) FF) := by
  with_unfolding_all show St _ _ _ _ _ (wpAny _ _ (execs (_ :: _) _) _ _)
  have hh := ok.handled
  have hu := ok.units
  have hrl := rts_len xs
  have hll : rv.length = (rts xs).length := by rw [hrv.length]; simp
  with_reducible (refine s_cons ?_; refine s_If ?_; (refine' t_Compare ?_ ?hh; (case hh => with_unfolding_all rfl)); (refine' r_loc ?ee ?nn ?vv ?_; (case ee => assumption); (case nn => walk_at "has"); (case vv => walk_at "has")))
  refine r_ListComp ?_ (by intro _; with_unfolding_all rfl) (by rw [hcs]; with_unfolding_all rfl) rfl (by kernel_rfl)
  with_reducible ((refine' r_loc ?ee ?nn ?vv ?_; (case ee => assumption); (case nn => walk_at "has"); (case vv => walk_at "has")))
  refine it_list hh (.inl ⟨_, _, rfl⟩) (seesL_b hR) (itr_none (by omega) hE [(".0", .local), ("one", .local), ("_law_row", .globalImplicit)] (by kernel_rfl) rfl (by walk_at "nd")
    [("one", none)] rfl (by walk_at "nd") (fun _ => []) (fun _ => []) (fun C => by rw [hcs]; with_unfolding_all rfl) (.inl ⟨rfl, fun h => by with_unfolding_all rfl⟩)
    (fun C i fr nw' ys => ∃ vx : Option Value, fr = ([(Str.ofString "one", vx)] : Frm) ∧ nw' = [] ∧ StrsAre ys (((rts xs).take i).map fun r => T (lrow r)))
    (fun C => ⟨none, rfl, rfl, .nil⟩) ?_ ?_)
  · rintro D cenv i v ov fr' nw' ys b' hEc hcc hi ⟨hv, rfl⟩ _ ⟨vx, rfl, rfl, hys⟩ hup hyl
    obtain ⟨r, hr⟩ : ∃ r, (rts xs)[i]? = some r := ⟨_, List.getElem?_eq_getElem (by omega)⟩
    have hr4 := rts_lt xs r (List.mem_of_getElem? hr)
    obtain ⟨tz, htz⟩ := hrv.get i (r : Int) (by simp [hr])
    rw [hv] at htz
    cases htz
    with_reducible (refine a_Name ?_; (refine' r_store ?ee ?nn ?vv ?_; (case ee => assumption); (case nn => walk_at "has"); (case vv => walk_at "put")); refine r_CallN ?_; (refine' r_glob ?ee ?nn ?vv ?_; (case ee => assumption); (case nn => walk_at "has"); (case vv => walk_at "has")); (refine' r_cw_def ?ff ?_ ?hh; (case ff => walk_at "isfn"); (case hh => with_unfolding_all rfl)); (refine' r_args ?_ ?hh; (case hh => with_unfolding_all rfl)); (refine' r_loc ?ee ?nn ?vv ?_; (case ee => assumption); (case nn => walk_at "has"); (case vv => walk_at "has")); refine r_args_nil ?_; refine r_fn ?_)
    refine row_call hr4 (ok.le (by omega)) (fun _ => ?_)
    refine ek ⟨_, rfl, rfl, ?_⟩
    rw [List.take_add_one, hr, List.map_append]
    exact strs_snoc hys
  · rintro D C fr' nw' ys ⟨vx, rfl, rfl, hys⟩ hyl
    rw [hll, List.take_length] at hys
    refine i_lne (by omega) (seesL_b hW) (seesL_nw Has.here) (eqvs_strs hwv hys) ?_
    with_reducible (refine t_bool ?_)
    refine r_if (fun h => nomatch h) (fun _ => ?_)
    refine s_nil ?_
    refine n_next ?_
    exact St.drop k
theorem law_6 {env : Env} {b : Shared} {sc R W F : Addr} {wv : List Value} {xs : List Int} {ty : List Nat} {tt : Tok} (hW : b.heap.IsList W wv.toArray) (hwv : StrsAre wv ((rts xs).map fun r => T (lrow r))) (hty : ∀ c ∈ ty, c < 128) (htl : ty.length ≤ 20)
    (hE : EnvOk env nsW) (hcs : env.cells = [(Str.ofString "costs", env.locals + 2), (Str.ofString "typed", env.locals + 1)]) (ok : Ok A 4)
    (k : ∀ b' Co cv, Keeps b b' → b'.heap.IsList Co cv.toArray → IntsAre cv ((rts xs).map fun r => dist ty (lrow r)) → St w env.locals b' (frW (some (.ref sc)) (some (.ref R)) (some (.ref W)) (some (.ref F)) none none none) (cells2 env.locals (some (.ref Co)) (some (.str (T ty) tt))) (wpAny (model prog w) A (execs ((bodyOf 141).drop 6) env) (KW Q) FF)) :
    St w env.locals b (frW (some (.ref sc)) (some (.ref R)) (some (.ref W)) (some (.ref F)) none none none) (cells2 env.locals none (some (.str (T ty) tt))) (wpAny (model prog w) A (execs ((bodyOf 141).drop 5) env) (KW Q) FF) := by
  with_unfolding_all show St _ _ _ _ _ (wpAny _ _ (execs (_ :: _) _) _ _)
  have hh := ok.handled
  have hrl := rts_len xs
  have hll : wv.length = (rts xs).length := by rw [hwv.len_eq]; simp
  refine s_cons ?_
  refine s_Assign ?_ (swaps_false hE (by walk_at "has"))
  refine r_ListComp ?_ (by intro _; with_unfolding_all rfl) (by rw [hcs]; with_unfolding_all rfl) rfl (by kernel_rfl)
  with_reducible ((refine' r_loc ?ee ?nn ?vv ?_; (case ee => assumption); (case nn => walk_at "has"); (case vv => walk_at "has")))
  refine it_list hh (.inl ⟨_, _, rfl⟩) (seesL_b hW) (itr_none (by omega) hE [(".0", .local), ("row", .local), ("_law_cost", .globalImplicit), ("typed", .cell)] (by kernel_rfl) rfl (by walk_at "nd")
    [("row", none)] rfl (by walk_at "nd") (fun _ => [("typed", env.locals + 1)]) (fun _ => []) (fun C => by rw [hcs]; with_unfolding_all rfl) (.inl ⟨rfl, fun h => by with_unfolding_all rfl⟩)
    (fun C i fr nw' ys => ∃ vx : Option Value, fr = ([(Str.ofString "row", vx)] : Frm) ∧ nw' = [] ∧ IntsAre ys (((rts xs).take i).map fun r => dist ty (lrow r)))
    (fun C => ⟨none, rfl, rfl, .nil⟩) ?_ ?_)
  · rintro D cenv i v ov fr' nw' ys b' hEc hcc hi ⟨hv, rfl⟩ _ ⟨vx, rfl, rfl, hys⟩ hup hyl
    obtain ⟨r, hr⟩ : ∃ r, (rts xs)[i]? = some r := ⟨_, List.getElem?_eq_getElem (by omega)⟩
    obtain ⟨tz, htz⟩ := hwv.get i (T (lrow r)) (by simp [hr])
    rw [hv] at htz
    cases htz
    have hct : b'.heap.IsCell (env.locals + 1) (some (.str (T ty) tt)) := hup.cell (seesC_nw (by walk_at "has"))
    try dsimp only at hcc
    with_reducible (refine a_Name ?_; (refine' r_store ?ee ?nn ?vv ?_; (case ee => assumption); (case nn => walk_at "has"); (case vv => walk_at "put")); refine r_CallN ?_; (refine' r_glob ?ee ?nn ?vv ?_; (case ee => assumption); (case nn => walk_at "has"); (case vv => walk_at "has")); (refine' r_cw_def ?ff ?_ ?hh; (case ff => walk_at "isfn"); (case hh => with_unfolding_all rfl)); (refine' r_args ?_ ?hh; (case hh => with_unfolding_all rfl)); (refine' r_cel ?ee ?nn ?cc ?hc ?nd ?vv ?_; (case ee => assumption); (case nn => walk_at "has"); (case cc => assumption); (case hc => walk_at "has"); (case nd => walk_at "nd"); (case vv => walk_at "seesc")); (refine' r_args ?_ ?hh; (case hh => with_unfolding_all rfl)); (refine' r_loc ?ee ?nn ?vv ?_; (case ee => assumption); (case nn => walk_at "has"); (case vv => walk_at "has")); refine r_args_nil ?_; refine r_fn ?_)
    refine cost_call hty (lrow_lt r) htl (by rw [lrow_len]; omega) (ok.le (by omega)) (fun _ => ?_)
    refine ek ⟨_, rfl, rfl, ?_⟩
    rw [List.take_add_one, hr, List.map_append]
    exact hys.append (.cons _ _ .nil)
  · rintro D C fr' nw' ys ⟨vx, rfl, rfl, hys⟩ hyl
    rw [hll, List.take_length] at hys
    with_reducible ((refine' r_storeCel ?ee ?nn ?cc ?hc ?nd ?vv ?pp ?_; (case ee => assumption); (case nn => walk_at "has"); (case cc => assumption); (case hc => walk_at "has"); (case nd => walk_at "nd"); (case vv => walk_at "has"); (case pp => walk_at "put")); refine n_next ?_)
    exact St.store fun b' kb hC => k b' D ys kb hC hys
theorem law_7 {env : Env} {b : Shared} {sc R W F Co : Addr} {wv : List Value} {xs : List Int} {ty : List Nat} {tt : Tok} (hW : b.heap.IsList W wv.toArray) (hwv : StrsAre wv ((rts xs).map fun r => T (lrow r))) (hty : ∀ c ∈ ty, c < 128) (htl : ty.length ≤ 20)
    (hE : EnvOk env nsW) (hcs : env.cells = [(Str.ofString "costs", env.locals + 2), (Str.ofString "typed", env.locals + 1)]) (ok : Ok A 4)
    (k : ∀ gs as Aa Ra mv b', Keeps b b' → b'.heap.IsList Aa (as.map fun a : AI => Value.ref a.1).toArray → b'.heap.IsList Ra (mv : List Value).toArray → (∀ p ∈ gs, b'.heap.IsTuple p.1 p.2.toArray) →
      as.length = (rts xs).length → AsOk ty ((rts xs).map lrow) gs as → IntsAre mv (((srt (prs ty ((rts xs).map lrow) (rts xs).length)).take 3).map (·.2)) →
      St w env.locals b' (frW (some (.ref sc)) (some (.ref R)) (some (.ref W)) (some (.ref F)) (some (.ref Aa)) (some (.ref Ra)) none) (cells2 env.locals (some (.ref Co)) (some (.str (T ty) tt))) (wpAny (model prog w) A (execs ((bodyOf 141).drop 7) env) (KW Q) FF)) :
    St w env.locals b (frW (some (.ref sc)) (some (.ref R)) (some (.ref W)) (some (.ref F)) none none none) (cells2 env.locals (some (.ref Co)) (some (.str (T ty) tt))) (wpAny (model prog w) A (execs ((bodyOf 141).drop 6) env) (KW Q) FF) := by
  with_unfolding_all show St _ _ _ _ _ (wpAny _ _ (execs (_ :: _) _) _ _)
  have hh := ok.handled
  have hrl := rts_len xs
  with_reducible (refine s_cons ?_; (refine' s_AssignTup ?_ ?hh ?gg; (case hh => with_unfolding_all rfl); (case gg => with_unfolding_all rfl)); refine r_CallN ?_; (refine' r_glob ?ee ?nn ?vv ?_; (case ee => assumption); (case nn => walk_at "has"); (case vv => walk_at "has")); (refine' r_cw_def ?ff ?_ ?hh; (case ff => walk_at "isfn"); (case hh => with_unfolding_all rfl)); (refine' r_args ?_ ?hh; (case hh => with_unfolding_all rfl)); (refine' r_cel ?ee ?nn ?cc ?hc ?nd ?vv ?_; (case ee => assumption); (case nn => walk_at "has"); (case cc => assumption); (case hc => walk_at "has"); (case nd => walk_at "nd"); (case vv => walk_at "seesc")); (refine' r_args ?_ ?hh; (case hh => with_unfolding_all rfl)); (refine' r_loc ?ee ?nn ?vv ?_; (case ee => assumption); (case nn => walk_at "has"); (case vv => walk_at "has")); refine r_args_nil ?_; refine r_fn ?_)
  refine near_call (rl := (rts xs).map lrow) hty htl (fun r hr => ?_) (by simp; omega) (by rw [List.map_map]; exact hwv) (seesL_b hW) (ok.le (by omega)) ?_
  · obtain ⟨z, _, rfl⟩ := List.mem_map.mp hr
    exact ⟨lrow_lt z, by rw [lrow_len]; omega⟩
  · intro gs as Aa Ra mv tp b' kb h1 h2 h3 h4 h5 h6 h7
    rw [List.length_map] at h5 h7
    refine a_Tup2 hh (seesT_b h1) ?_
    with_reducible ((refine' r_store ?ee ?nn ?vv ?_; (case ee => assumption); (case nn => walk_at "has"); (case vv => walk_at "put")); (refine' r_store ?ee ?nn ?vv ?_; (case ee => assumption); (case nn => walk_at "has"); (case vv => walk_at "put")); refine n_next ?_)
    exact k gs as Aa Ra mv b' kb h2 h3 h4 h5 h6 h7
end

-- F9
section
variable {prog : Program} {w : World} {A : Around} {E : Value → Shared → Prop} {s : Shared} {Q : Value → Shared → Prop}
theorem law_8 {env : Env} {b : Shared} {sc R W F Co Aa Ra : Addr} {wv cv : List Value} {xs : List Int} {ty : List Nat} {tt : Tok} (hW : b.heap.IsList W wv.toArray) (hwv : StrsAre wv ((rts xs).map fun r => T (lrow r))) (hC : b.heap.IsList Co cv.toArray) (hcv : IntsAre cv ((rts xs).map fun r => dist ty (lrow r)))
    (hE : EnvOk env nsW) (hcs : env.cells = [(Str.ofString "costs", env.locals + 2), (Str.ofString "typed", env.locals + 1)]) (ok : Ok A 4)
    (k : ∀ b' To tv, Keeps b b' → b'.heap.IsList To tv.toArray → IntsAre tv (((srt (prs ty ((rts xs).map lrow) (rts xs).length)).take 3).map (·.2)) →
      St w env.locals b' (frW (some (.ref sc)) (some (.ref R)) (some (.ref W)) (some (.ref F)) (some (.ref Aa)) (some (.ref Ra)) (some (.ref To))) (cells2 env.locals (some (.ref Co)) (some (.str (T ty) tt))) (wpAny (model prog w) A (execs ((bodyOf 141).drop 8) env) (KW Q) FF)) :
    St w env.locals b (frW (some (.ref sc)) (some (.ref R)) (some (.ref W)) (some (.ref F)) (some (.ref Aa)) (some (.ref Ra)) none) (cells2 env.locals (some (.ref Co)) (some (.str (T ty) tt))) (wpAny (model prog w) A (execs ((bodyOf 141).drop 7) env) (KW Q) FF) := by
  with_unfolding_all show St _ _ _ _ _ (wpAny _ _ (execs (_ :: _) _) _ _)
  have hh := ok.handled
  have hrl := rts_len xs
  have hll : wv.length = (rts xs).length := by rw [hwv.len_eq]; simp
  refine s_cons ?_
  refine s_AssignComp ?_ (swaps_true hE (by walk_at "has") rfl (by kernel_rfl)) (by intro _; with_unfolding_all rfl) (by rw [hcs]; with_unfolding_all rfl) rfl (by kernel_rfl)
  with_reducible (refine r_Subscript ?_; refine r_CallN ?_; (refine' r_glob ?ee ?nn ?vv ?_; (case ee => assumption); (case nn => walk_at "has"); (case vv => walk_at "has")); (refine' r_cw_builtin ?_ ?hh ?gg; (case hh => with_unfolding_all rfl); (case gg => with_unfolding_all rfl)); (refine' r_args ?_ ?hh; (case hh => with_unfolding_all rfl)))
  refine r_ListComp ?_ (by intro _; with_unfolding_all rfl) (by rw [hcs]; with_unfolding_all rfl) rfl (by kernel_rfl)
  with_reducible (refine r_CallN ?_; (refine' r_glob ?ee ?nn ?vv ?_; (case ee => assumption); (case nn => walk_at "has"); (case vv => walk_at "has")); (refine' r_cw_type ?_ ?hh ?gg; (case hh => with_unfolding_all rfl); (case gg => with_unfolding_all rfl)); (refine' r_args ?_ ?hh; (case hh => with_unfolding_all rfl)); refine r_CallN ?_; (refine' r_glob ?ee ?nn ?vv ?_; (case ee => assumption); (case nn => walk_at "has"); (case vv => walk_at "has")); (refine' r_cw_builtin ?_ ?hh ?gg; (case hh => with_unfolding_all rfl); (case gg => with_unfolding_all rfl)); (refine' r_args ?_ ?hh; (case hh => with_unfolding_all rfl)); (refine' r_loc ?ee ?nn ?vv ?_; (case ee => assumption); (case nn => walk_at "has"); (case vv => walk_at "has")); refine r_args_nil ?_; (refine' c_len_list ?ll ?ss (fun _ => ?_); (case ll => walk_at "sees"); (case ss => walk_at "side")); refine r_args_nil ?_; refine c_range1 (fun _ _ _ => ?_))
  rw [hll]
  refine it_range hh (by omega) (itr_none (by omega) hE [(".0", .local), ("k", .local), ("costs", .cell)] (by kernel_rfl) rfl (by walk_at "nd")
    [("k", none)] rfl (by walk_at "nd") (fun _ => [("costs", env.locals + 2)]) (fun _ => []) (fun C => by rw [hcs]; with_unfolding_all rfl) (.inl ⟨rfl, fun h => by with_unfolding_all rfl⟩)
    (fun C i fr nw' ys => ∃ (vx : Option Value) (hs : List HI) (gs : List (Addr × List Value)), fr = ([(Str.ofString "k", vx)] : Frm) ∧ nw' = tupLed gs ∧ ys = hs.map vref ∧ HsOk gs hs ∧ hs.map (·.2) = prs ty ((rts xs).map lrow) i)
    (fun C => ⟨none, [], [], rfl, rfl, rfl, (by intro h hm; cases hm), rfl⟩) ?_ ?_)
  · rintro D cenv i v ov fr' nw' ys b' hEc hcc hi ⟨⟨tv, rfl⟩, rfl⟩ _ ⟨vx, hs, gs, rfl, rfl, rfl, hHs, hprs⟩ hup hyl
    obtain ⟨r, hr⟩ : ∃ r, (rts xs)[i]? = some r := ⟨_, List.getElem?_eq_getElem (by omega)⟩
    obtain ⟨tz, htz⟩ := hcv.get i (dist ty (lrow r)) (by simp [hr])
    have hct : b'.heap.IsCell (env.locals + 2) (some (.ref Co)) := hup.cell (seesC_nw (by walk_at "has"))
    have hC' : b'.heap.IsList Co cv.toArray := hup.list (seesL_b hC)
    try dsimp only at hcc
    with_reducible (refine a_Name ?_; (refine' r_store ?ee ?nn ?vv ?_; (case ee => assumption); (case nn => walk_at "has"); (case vv => walk_at "put")); refine r_Tuple ?_; (refine' r_args ?_ ?hh; (case hh => with_unfolding_all rfl)); refine r_Subscript ?_; (refine' r_cel ?ee ?nn ?cc ?hc ?nd ?vv ?_; (case ee => assumption); (case nn => walk_at "has"); (case cc => assumption); (case hc => walk_at "has"); (case nd => walk_at "nd"); (case vv => walk_at "seesc")); (refine' r_loc ?ee ?nn ?vv ?_; (case ee => assumption); (case nn => walk_at "has"); (case vv => walk_at "has")))
    refine x_list_item (seesL_b hC') (by omega) (by omega) (v := .int (dist ty (lrow r)) tz) (by simpa using htz) ?_
    with_reducible ((refine' r_args ?_ ?hh; (case hh => with_unfolding_all rfl)); (refine' r_loc ?ee ?nn ?vv ?_; (case ee => assumption); (case nn => walk_at "has"); (case vv => walk_at "has")); refine r_args_nil ?_; (refine' r_newTuple ?ss (fun _ => ?_); (case ss => walk_at "side")))
    rename_i ta
    refine ek1 ⟨_, hs ++ [(ta, dist ty (lrow r), (i : Int))], (ta, [.int (dist ty (lrow r)) tz, .int (i : Int) tv]) :: gs, rfl, rfl, by simp, ?_, ?_⟩
    · intro h hm
      rcases List.mem_append.mp hm with hm | hm
      · obtain ⟨t1, t2, q⟩ := hHs h hm
        exact ⟨t1, t2, .tail _ q⟩
      · rw [List.mem_singleton.mp hm]
        exact ⟨_, _, .head _⟩
    · rw [prs_succ, List.map_append, hprs]
      simp [hr]
  · rintro D C fr' nw' ys ⟨vx, hs, gs, rfl, rfl, rfl, hHs, hprs⟩ hyl
    have hsl : hs.length = (rts xs).length := by simpa using hyl
    have seeT : ∀ {nwx : Led} {h : HI}, h ∈ hs → (∀ p ∈ tupLed gs, p ∈ nwx) → ∃ t1 t2, Has nwx h.1 (.tup [.int h.2.1 t1, .int h.2.2 t2]) := by
      intro nwx h hm hsub
      obtain ⟨t1, t2, q⟩ := hHs h hm
      exact ⟨t1, t2, has_of (p := (h.1, Mine.D.tup [.int h.2.1 t1, .int h.2.2 t2])) (hsub _ (List.mem_map_of_mem (f := fun p : Addr × List Value => (p.1, Mine.D.tup p.2)) q))⟩
    with_reducible (refine r_args_nil ?_)
    refine c_sorted (seesL_nw Has.here) (fun h hm => ?_) (by rw [hprs]; exact prs_nodup _ _ _) (by omega) (by omega) fun D2 hs' hperm hup => ?_
    · obtain ⟨t1, t2, q⟩ := seeT (nwx := (D, .list (hs.map vref)) :: (tupLed gs ++ cells2 env.locals (some (.ref Co)) (some (.str (T ty) tt)))) hm (fun p hp => .tail _ (List.mem_append_left _ hp))
      exact ⟨t1, t2, seesT_nw q⟩
    · have hsrt : srt (prs ty ((rts xs).map lrow) (rts xs).length) = hs'.map (·.2) := srt_of hup (by rw [← hprs]; exact hperm.map _)
      have hsl' : hs'.length = (rts xs).length := by rw [hperm.length_eq]; exact hsl
      with_reducible (refine r_Slice ?_; refine r_part0 ?_; refine r_part ?_; refine r_int (fun _ => ?_); refine r_SlK (fun _ => ?_))
      refine x_list_slice (seesL_nw (by walk_at "has")) (by rw [List.length_map]; omega) .none (.int _ _) fun c3 => ?_
      have e3 : pySl (hs'.map vref) none (some 3) = (hs'.take 3).map vref := by
        have := pySl_to (hs'.map vref) 3
        rw [List.map_take]
        exact this
      rw [e3]
      have hl3 : (hs'.take 3).length = 3 := by rw [List.length_take]; omega
      refine it_list hh (.inr ⟨_, _, _, rfl⟩) (seesL_nw (by walk_at "has")) (itr_use (by rw [List.length_map]; omega) hE (by walk_at "has") [(".0", .local), ("cost", .local), ("k", .local)] (by kernel_rfl) rfl (by walk_at "nd")
        [("cost", none), ("k", none)] rfl (by walk_at "nd") (fun _ => []) (fun _ => []) (fun C => by rw [hcs]; with_unfolding_all rfl) (.inl ⟨rfl, fun h => by with_unfolding_all rfl⟩)
        (fun C i fr nw' ys => ∃ (v1 v2 : Option Value), fr = ([(Str.ofString "cost", v1), (Str.ofString "k", v2)] : Frm) ∧ nw' = [] ∧ IntsAre ys (((hs'.take 3).take i).map (·.2.2)))
        (fun C => ⟨none, none, rfl, rfl, .nil⟩) ?_ ?_)
      · rintro D4 cenv i v ov fr' nw' ys b' hEc hcc hi ⟨hv, rfl⟩ _ ⟨v1, v2, rfl, rfl, hys⟩ hup4 hyl4
        obtain ⟨h, hh'⟩ : ∃ h, (hs'.take 3)[i]? = some h := ⟨_, List.getElem?_eq_getElem (by simpa using hi)⟩
        have hv' : v = .ref h.1 := by rw [List.getElem?_map, hh'] at hv; cases hv; rfl
        subst hv'
        have hm : h ∈ hs := hperm.mem_iff.mp (List.mem_of_mem_take (List.mem_of_getElem? hh'))
        obtain ⟨t1, t2, q⟩ := seeT (nwx := (c3, .list ((hs'.take 3).map vref)) :: (D2, .list (hs'.map vref)) :: (D, .list (hs.map vref)) :: (tupLed gs ++ cells2 env.locals (some (.ref Co)) (some (.str (T ty) tt)))) hm (fun p hp => .tail _ (.tail _ (.tail _ (List.mem_append_left _ hp))))
        have hT := hup4.tup (seesT_nw q)
        refine a_Tup2 hh (seesT_b hT) ?_
        with_reducible ((refine' r_store ?ee ?nn ?vv ?_; (case ee => assumption); (case nn => walk_at "has"); (case vv => walk_at "put")); (refine' r_store ?ee ?nn ?vv ?_; (case ee => assumption); (case nn => walk_at "has"); (case vv => walk_at "put")); (refine' r_loc ?ee ?nn ?vv ?_; (case ee => assumption); (case nn => walk_at "has"); (case vv => walk_at "has")))
        refine ek ⟨_, _, rfl, rfl, ?_⟩
        rw [List.take_add_one, hh', List.map_append]
        exact hys.append (.cons _ _ .nil)
      · rintro D4 C4 fr' nw' ys ⟨v1, v2, rfl, rfl, hys⟩ hyl4
        refine ⟨_, by walk_at "put", ?_⟩
        refine n_next ?_
        refine St.store fun b' kb hTo => ?_
        have hys2 : IntsAre ys (((srt (prs ty ((rts xs).map lrow) (rts xs).length)).take 3).map (·.2)) := by
          rw [hsrt, ← List.map_take, List.map_map]
          rw [List.length_map, List.take_length] at hys
          exact hys
        refine St.subperm ⟨_, .refl _, ?_⟩ (k b' D4 ys kb hTo hys2)
        refine .cons _ (.cons _ (.cons _ ?_))
        exact List.sublist_append_right _ _
end

-- F10
section
variable {prog : Program} {w : World} {A : Around} {E : Value → Shared → Prop} {s : Shared} {Q : Value → Shared → Prop}
/-- what is said of a row, up to the bound -/
def sayB (a : AI) (d : Int) : Int := min d (a.2.1 + 1)
theorem a_TupN {env : Env} {L : Addr} {b : Shared} {fr : Frm} {nw : Led} {x y z : Str} {px py pz p2 pos : Pos} {k k2 : Nat} {a c : Addr} {v1 v2 v3 : Value} {Q : Unit → Shared → Prop} (hh : A.handled = none) (ht : b.heap.IsTuple a #[v1, .ref c]) (hc : b.heap.IsTuple c #[v2, v3])
    (h : St w L b fr nw (wpAny (model prog w) A (storeName env x v1) (fun _ s₁ => ∃ fr₁, At w L b fr₁ nw s₁ ∧ St w L b fr₁ nw (wpAny (model prog w) A (storeName env y v2) (fun _ => wpAny (model prog w) A (storeName env z v3) Q E) E)) E)) :
    St w L b fr nw (wpAny (model prog w) A (assign (.Tuple [.Name x px, .Tuple [.Name y py, .Name z pz] k2 p2] k pos) env (.ref a)) Q E) := by
  refine a_Tup hh (seesT_b (vs := [v1, .ref c]) ht) rfl rfl ?_
  show St w L b fr nw (wpAny (model prog w) A (assignInOrder [assign (.Name x px) env, assign (.Tuple [.Name y py, .Name z pz] k2 p2) env] [v1, .ref c]) Q E)
  refine a_cons (fun s hs => wpAny_mono (h s hs) (fun _ s' h' => ?_) fun _ _ x => x)
  obtain ⟨fr₁, hat, h₁⟩ := h'
  refine wpAny_assignInOrder_more ?_
  refine wpAny_mono (a_Tup2 hh (seesT_b (vs := [v2, v3]) hc) h₁ s' hat) (fun _ s'' h'' => wpAny_assignInOrder_none h'') fun _ _ x => x
/-- what is said of the j-th row -/
def sv (ty : List Nat) (rl : List (List Nat)) (as : List AI) (j : Nat) : Int := min (dist ty (rl.getD j [])) ((as.getD j (0, 0, 0)).2.1 + 1)
theorem law_9 {env : Env} {b : Shared} {sc R W F Co Aa Ra To : Addr} {cv mv tv : List Value} {gs : List (Addr × List Value)} {as : List AI} {xs : List Int} {ty : List Nat} {tt : Tok} {ks : List Int} (hC : b.heap.IsList Co cv.toArray) (hcv : IntsAre cv ((rts xs).map fun r => dist ty (lrow r)))
    (hA : b.heap.IsList Aa (as.map fun a : AI => Value.ref a.1).toArray) (hRa : b.heap.IsList Ra mv.toArray) (hmv : IntsAre mv ks) (hTo : b.heap.IsList To tv.toArray) (htv : IntsAre tv ks) (hgs : ∀ p ∈ gs, b.heap.IsTuple p.1 p.2.toArray) (hal : as.length = (rts xs).length) (hAs : AsOk ty ((rts xs).map lrow) gs as)
    (hE : EnvOk env nsW) (hcs : env.cells = [(Str.ofString "costs", env.locals + 2), (Str.ofString "typed", env.locals + 1)]) (ok : Ok A 4)
    (k : St w env.locals b (frW (some (.ref sc)) (some (.ref R)) (some (.ref W)) (some (.ref F)) (some (.ref Aa)) (some (.ref Ra)) (some (.ref To))) (cells2 env.locals (some (.ref Co)) (some (.str (T ty) tt))) (wpAny (model prog w) A (execs ((bodyOf 141).drop 9) env) (KW Q) FF)) :
    St w env.locals b (frW (some (.ref sc)) (some (.ref R)) (some (.ref W)) (some (.ref F)) (some (.ref Aa)) (some (.ref Ra)) (some (.ref To))) (cells2 env.locals (some (.ref Co)) (some (.str (T ty) tt))) (wpAny (model prog w) A (execs ((bodyOf 141).drop 8) env) (KW Q) FF) := by
  with_unfolding_all show St _ _ _ _ _ (wpAny _ _ (execs (_ :: _) _) _ _)
  have hh := ok.handled
  have hu := ok.units
  have hrl := rts_len xs
  have hcl : cv.length = (rts xs).length := by rw [hcv.length]; simp
  have asAt : ∀ i, i < (rts xs).length → ∃ a t1 t2, as[i]? = some a ∧ b.heap.IsTuple a.1 #[.int a.2.1 t1, .int a.2.2 t2] ∧ (if a.2.2 ≤ a.2.1 then a.2.2 else a.2.1 + 1) = sv ty ((rts xs).map lrow) as i ∧ a.2.1 = (as.getD i (0, 0, 0)).2.1 := by
    intro i hi
    obtain ⟨a, ha⟩ : ∃ a, as[i]? = some a := ⟨_, List.getElem?_eq_getElem (by omega)⟩
    obtain ⟨q1, q2, t1, t2, q3⟩ := hAs i a ha
    refine ⟨a, t1, t2, ha, by simpa using hgs _ q3, ?_, by simp [ha]⟩
    have e : as.getD i (0, 0, 0) = a := by simp [ha]
    unfold sv
    rw [e]
    generalize dist ty (((rts xs).map lrow).getD i []) = d at *
    by_cases hd : d ≤ a.2.1
    · have := q1 hd
      rw [if_pos (by omega)]; omega
    · have := q2 (by omega)
      rw [if_neg (by omega)]; omega
  with_reducible (refine s_cons ?_; refine s_If ?_; refine t_BoolOp ?_; refine t_Or ?_; (refine' t_Compare ?_ ?hh; (case hh => with_unfolding_all rfl)); (refine' r_loc ?ee ?nn ?vv ?_; (case ee => assumption); (case nn => walk_at "has"); (case vv => walk_at "has")); (refine' r_loc ?ee ?nn ?vv ?_; (case ee => assumption); (case nn => walk_at "has"); (case vv => walk_at "has")))
  refine i_lne (by omega) (seesL_b hRa) (seesL_b hTo) (eqvs_ints hmv htv) ?_
  with_reducible (refine t_bool ?_)
  refine r_if (fun h => nomatch h) (fun _ => ?_)
  with_reducible (refine t_Or ?_; (refine' t_Compare ?_ ?hh; (case hh => with_unfolding_all rfl)))
  refine r_ListComp ?_ (by intro _; with_unfolding_all rfl) (by rw [hcs]; with_unfolding_all rfl) rfl (by kernel_rfl)
  with_reducible ((refine' r_loc ?ee ?nn ?vv ?_; (case ee => assumption); (case nn => walk_at "has"); (case vv => walk_at "has")))
  refine it_list hh (.inr ⟨_, _, _, rfl⟩) (seesL_b hA) (itr_none (by rw [List.length_map]; omega) hE [(".0", .local), ("bound", .local), ("cost", .local)] (by kernel_rfl) rfl (by walk_at "nd")
    [("bound", none), ("cost", none)] rfl (by walk_at "nd") (fun _ => []) (fun _ => []) (fun C => by rw [hcs]; with_unfolding_all rfl) (.inl ⟨rfl, fun h => by with_unfolding_all rfl⟩)
    (fun C i fr nw' ys => ∃ (v1 v2 : Option Value), fr = ([(Str.ofString "bound", v1), (Str.ofString "cost", v2)] : Frm) ∧ nw' = [] ∧ IntsAre ys ((List.range i).map (sv ty ((rts xs).map lrow) as)))
    (fun C => ⟨none, none, rfl, rfl, .nil⟩) ?_ ?_)
  · rintro D cenv i v ov fr' nw' ys b' hEc hcc hi ⟨hv, rfl⟩ _ ⟨v1, v2, rfl, rfl, hys⟩ hup hyl
    rw [List.length_map] at hi
    obtain ⟨a, t1, t2, ha, hT, hs, _⟩ := asAt i (by omega)
    have hv' : v = .ref a.1 := by rw [List.getElem?_map, ha] at hv; cases hv; rfl
    subst hv'
    have hT' := hup.tup (seesT_b (vs := [.int a.2.1 t1, .int a.2.2 t2]) hT)
    refine a_Tup2 hh (seesT_b hT') ?_
    with_reducible ((refine' r_store ?ee ?nn ?vv ?_; (case ee => assumption); (case nn => walk_at "has"); (case vv => walk_at "put")); (refine' r_store ?ee ?nn ?vv ?_; (case ee => assumption); (case nn => walk_at "has"); (case vv => walk_at "put")); refine r_IfExp ?_; (refine' t_Compare ?_ ?hh; (case hh => with_unfolding_all rfl)); (refine' r_loc ?ee ?nn ?vv ?_; (case ee => assumption); (case nn => walk_at "has"); (case vv => walk_at "has")); (refine' r_loc ?ee ?nn ?vv ?_; (case ee => assumption); (case nn => walk_at "has"); (case vv => walk_at "has")); refine i_le ?_; refine t_bool ?_)
    refine r_if (fun h => ?_) (fun h => ?_)
    · simp only [decide_eq_true_eq] at h
      rw [if_pos h] at hs
      with_reducible ((refine' r_loc ?ee ?nn ?vv ?_; (case ee => assumption); (case nn => walk_at "has"); (case vv => walk_at "has")))
      refine ek ⟨_, _, rfl, rfl, ?_⟩
      rw [List.range_succ, List.map_append, hs]
      exact hys.append (.cons _ _ .nil)
    · simp only [decide_eq_false_iff_not] at h
      rw [if_neg h] at hs
      with_reducible (refine r_BinOp ?_; (refine' r_loc ?ee ?nn ?vv ?_; (case ee => assumption); (case nn => walk_at "has"); (case vv => walk_at "has")); refine r_int (fun _ => ?_); refine i_add (fun _ => ?_))
      refine ek ⟨_, _, rfl, rfl, ?_⟩
      rw [List.range_succ, List.map_append, hs]
      exact hys.append (.cons _ _ .nil)
  · rintro D C fr' nw' ys ⟨v1, v2, rfl, rfl, hys⟩ hyl
    rw [List.length_map, hal] at hys
    refine r_ListComp ?_ (by intro _; with_unfolding_all rfl) (by rw [hcs]; with_unfolding_all rfl) rfl (by kernel_rfl)
    with_reducible (refine r_CallN ?_; (refine' r_glob ?ee ?nn ?vv ?_; (case ee => assumption); (case nn => walk_at "has"); (case vv => walk_at "has")); (refine' r_cw_type ?_ ?hh ?gg; (case hh => with_unfolding_all rfl); (case gg => with_unfolding_all rfl)); (refine' r_args ?_ ?hh; (case hh => with_unfolding_all rfl)); (refine' r_cel ?ee ?nn ?cc ?hc ?nd ?vv ?_; (case ee => assumption); (case nn => walk_at "has"); (case cc => assumption); (case hc => walk_at "has"); (case nd => walk_at "nd"); (case vv => walk_at "seesc")); (refine' r_args ?_ ?hh; (case hh => with_unfolding_all rfl)); (refine' r_loc ?ee ?nn ?vv ?_; (case ee => assumption); (case nn => walk_at "has"); (case vv => walk_at "has")); refine r_args_nil ?_)
    refine it_zip hh (seesL_b hC) (seesL_b hA) (itr_none (by rw [List.length_map]; omega) hE [(".0", .local), ("cost", .local), ("bound", .local), ("said", .local), ("min", .globalImplicit)] (by kernel_rfl) rfl (by walk_at "nd")
      [("cost", none), ("bound", none), ("said", none)] rfl (by walk_at "nd") (fun _ => []) (fun _ => []) (fun C => by rw [hcs]; with_unfolding_all rfl) (.inl ⟨rfl, fun h => by with_unfolding_all rfl⟩)
      (fun C i fr nw' zs => ∃ (v1 v2 v3 : Option Value), fr = ([(Str.ofString "cost", v1), (Str.ofString "bound", v2), (Str.ofString "said", v3)] : Frm) ∧ nw' = [] ∧ IntsAre zs ((List.range i).map (sv ty ((rts xs).map lrow) as)))
      (fun C => ⟨none, none, none, rfl, rfl, .nil⟩) ?_ ?_)
    · rintro D2 cenv i v ov fr' nw' zs b' hEc hcc hi ⟨vals, ⟨x, y, hx, hy, rfl⟩, rfl⟩ hTv ⟨v1, v2, v3, rfl, rfl, hzs⟩ hup hzl
      rw [List.length_map] at hi
      obtain ⟨T0, rfl, hT0⟩ := hTv _ rfl
      obtain ⟨a, t1, t2, ha, hT, _, hs⟩ := asAt i (by omega)
      have hy' : y = .ref a.1 := by rw [List.getElem?_map, ha] at hy; cases hy; rfl
      subst hy'
      obtain ⟨r, hr⟩ : ∃ r, (rts xs)[i]? = some r := ⟨_, List.getElem?_eq_getElem (by omega)⟩
      obtain ⟨tz, htz⟩ := hcv.get i (dist ty (lrow r)) (by simp [hr])
      rw [hx] at htz
      cases htz
      have hT' := hup.tup (seesT_b (vs := [.int a.2.1 t1, .int a.2.2 t2]) hT)
      refine a_TupN hh hT0 hT' ?_
      refine r_store hEc (by walk_at "has") (by walk_at "put") (fun s₁ h₁ => ⟨_, h₁, ?_⟩)
      with_reducible ((refine' r_store ?ee ?nn ?vv ?_; (case ee => assumption); (case nn => walk_at "has"); (case vv => walk_at "put")); (refine' r_store ?ee ?nn ?vv ?_; (case ee => assumption); (case nn => walk_at "has"); (case vv => walk_at "put")); refine r_CallN ?_; (refine' r_glob ?ee ?nn ?vv ?_; (case ee => assumption); (case nn => walk_at "has"); (case vv => walk_at "has")); (refine' r_cw_builtin ?_ ?hh ?gg; (case hh => with_unfolding_all rfl); (case gg => with_unfolding_all rfl)); (refine' r_args ?_ ?hh; (case hh => with_unfolding_all rfl)); (refine' r_loc ?ee ?nn ?vv ?_; (case ee => assumption); (case nn => walk_at "has"); (case vv => walk_at "has")); (refine' r_args ?_ ?hh; (case hh => with_unfolding_all rfl)); refine r_BinOp ?_; (refine' r_loc ?ee ?nn ?vv ?_; (case ee => assumption); (case nn => walk_at "has"); (case vv => walk_at "has")); refine r_int (fun _ => ?_); refine i_add (fun _ => ?_); refine r_args_nil ?_; (refine' c_min2 ?hh (fun _ => ?_); (case hh => assumption)))
      refine ek ⟨_, _, _, rfl, rfl, ?_⟩
      rw [List.range_succ, List.map_append]
      have e : sv ty ((rts xs).map lrow) as i = min (dist ty (lrow r)) (a.2.1 + 1) := by unfold sv; rw [← hs]; simp [hr]
      show IntsAre _ (_ ++ [sv ty ((rts xs).map lrow) as i])
      rw [e]
      exact hzs.append (.cons _ _ .nil)
    · rintro D2 C2 fr' nw' zs ⟨v1, v2, v3, rfl, rfl, hzs⟩ hzl
      rw [List.length_map, hal, hcl, Nat.min_self] at hzs
      refine i_lne (by omega) (seesL_nw (by walk_at "has")) (seesL_nw (by walk_at "has")) (eqvs_ints hys hzs) ?_
      with_reducible (refine t_bool ?_)
      refine r_if (fun h => nomatch h) (fun _ => ?_)
      with_reducible (refine t_Or_nil ?_)
      refine r_if (fun h => nomatch h) (fun _ => ?_)
      refine s_nil ?_
      refine n_next ?_
      exact St.drop (St.drop k)
end

-- F11
section
variable {prog : Program} {w : World} {A : Around} {E : Value → Shared → Prop} {s : Shared} {Q : Value → Shared → Prop}
theorem law_10 {env : Env} {b : Shared} {sc R W F Co Aa Ra To : Addr} {wv cv : List Value} {xs : List Int} {ty : List Nat} {tt : Tok} (hW : b.heap.IsList W wv.toArray) (hwv : StrsAre wv ((rts xs).map fun r => T (lrow r))) (hC : b.heap.IsList Co cv.toArray) (hcv : IntsAre cv ((rts xs).map fun r => dist ty (lrow r))) (hty : ∀ c ∈ ty, c < 128) (htl : ty.length ≤ 20)
    (hE : EnvOk env nsW) (hcs : env.cells = [(Str.ofString "costs", env.locals + 2), (Str.ofString "typed", env.locals + 1)]) (ok : Ok A 4)
    (k : ∀ s', Keeps b s' → Q (.bool true) s') :
    St w env.locals b (frW (some (.ref sc)) (some (.ref R)) (some (.ref W)) (some (.ref F)) (some (.ref Aa)) (some (.ref Ra)) (some (.ref To))) (cells2 env.locals (some (.ref Co)) (some (.str (T ty) tt))) (wpAny (model prog w) A (execs ((bodyOf 141).drop 9) env) (KW Q) FF) := by
  with_unfolding_all show St _ _ _ _ _ (wpAny _ _ (execs (_ :: _) _) _ _)
  have hh := ok.handled
  have hu := ok.units
  have hrl := rts_len xs
  have hll : wv.length = (rts xs).length := by rw [hwv.len_eq]; simp
  with_reducible (refine s_cons ?_; refine s_Return ?_; (refine' r_Compare ?_ ?hh; (case hh => with_unfolding_all rfl)))
  refine r_ListComp ?_ (by intro _; with_unfolding_all rfl) (by rw [hcs]; with_unfolding_all rfl) rfl (by kernel_rfl)
  with_reducible ((refine' r_loc ?ee ?nn ?vv ?_; (case ee => assumption); (case nn => walk_at "has"); (case vv => walk_at "has")))
  refine it_list hh (.inl ⟨_, _, rfl⟩) (seesL_b hW) (itr_none (by omega) hE [(".0", .local), ("row", .local), ("_levenshtein_distance", .globalImplicit), ("typed", .cell)] (by kernel_rfl) rfl (by walk_at "nd")
    [("row", none)] rfl (by walk_at "nd") (fun _ => [("typed", env.locals + 1)]) (fun _ => []) (fun C => by rw [hcs]; with_unfolding_all rfl) (.inl ⟨rfl, fun h => by with_unfolding_all rfl⟩)
    (fun C i fr nw' ys => ∃ vx : Option Value, fr = ([(Str.ofString "row", vx)] : Frm) ∧ nw' = [] ∧ IntsAre ys (((rts xs).take i).map fun r => dist ty (lrow r)))
    (fun C => ⟨none, rfl, rfl, .nil⟩) ?_ ?_)
  · rintro D cenv i v ov fr' nw' ys b' hEc hcc hi ⟨hv, rfl⟩ _ ⟨vx, rfl, rfl, hys⟩ hup hyl
    obtain ⟨r, hr⟩ : ∃ r, (rts xs)[i]? = some r := ⟨_, List.getElem?_eq_getElem (by omega)⟩
    obtain ⟨tz, htz⟩ := hwv.get i (T (lrow r)) (by simp [hr])
    rw [hv] at htz
    cases htz
    have hct : b'.heap.IsCell (env.locals + 1) (some (.str (T ty) tt)) := hup.cell (seesC_nw (by walk_at "has"))
    try dsimp only at hcc
    with_reducible (refine a_Name ?_; (refine' r_store ?ee ?nn ?vv ?_; (case ee => assumption); (case nn => walk_at "has"); (case vv => walk_at "put")); refine r_CallN ?_; (refine' r_glob ?ee ?nn ?vv ?_; (case ee => assumption); (case nn => walk_at "has"); (case vv => walk_at "has")); (refine' r_cw_def ?ff ?_ ?hh; (case ff => walk_at "isfn"); (case hh => with_unfolding_all rfl)); (refine' r_args ?_ ?hh; (case hh => with_unfolding_all rfl)); (refine' r_loc ?ee ?nn ?vv ?_; (case ee => assumption); (case nn => walk_at "has"); (case vv => walk_at "has")); (refine' r_args ?_ ?hh; (case hh => with_unfolding_all rfl)); (refine' r_cel ?ee ?nn ?cc ?hc ?nd ?vv ?_; (case ee => assumption); (case nn => walk_at "has"); (case cc => assumption); (case hc => walk_at "has"); (case nd => walk_at "nd"); (case vv => walk_at "seesc")); (refine' r_args ?_ ?hh; (case hh => with_unfolding_all rfl)); refine r_int (fun _ => ?_); refine r_args_nil ?_; refine r_fn ?_)
    refine lev_call (lrow_lt r) hty (by rw [lrow_len]; omega) htl (ok.le (by omega)) (fun c tc h1 _ => ?_)
    have hd : dist (lrow r) ty ≤ 99 := by
      have := cell_le_max (f := lf (lrow r) ty) (lrow r).length ty.length
      unfold dist
      rw [lrow_len] at this ⊢
      omega
    rw [h1 hd, dist_symm]
    refine ek ⟨_, rfl, rfl, ?_⟩
    rw [List.take_add_one, hr, List.map_append]
    exact hys.append (.cons _ _ .nil)
  · rintro D C fr' nw' ys ⟨vx, rfl, rfl, hys⟩ hyl
    rw [hll, List.take_length] at hys
    with_reducible ((refine' r_cel ?ee ?nn ?cc ?hc ?nd ?vv ?_; (case ee => assumption); (case nn => walk_at "has"); (case cc => assumption); (case hc => walk_at "has"); (case nd => walk_at "nd"); (case vv => walk_at "seesc")))
    refine i_leq (by omega) (seesL_nw Has.here) (seesL_b hC) (eqvs_ints hys hcv) ?_
    with_reducible (refine n_ret ?_)
    exact fun s' h' => k _ h'.toKeeps
theorem law_spec {sc : Addr} {vs : List Value} {xs : List Int} (hI : IntsAre vs xs) (hxl : xs.length < 100) (hL : s.heap.IsList sc vs.toArray) (ok : Ok A 5) (g : Gd w s.heap)
    (k : ∀ s', Keeps s s' → Q (.bool true) s') : wpAny (model prog w) A (call (.ref 141) [.ref sc]) Q E s := by
  refine fn_enterC (frW (some (.ref sc)) none none none none none none) (fun L => [(L + 2, .cell none), (L + 1, .cell none)]) (fun L => [("costs", L + 2), ("typed", L + 1)]) g (by have := ok.depth; omega) (by with_unfolding_all rfl) rfl rfl (by kernel_rfl) (by with_unfolding_all rfl) rfl (by dsimp only) (fun _ => by with_unfolding_all rfl) (by kernel_rfl) (fun _ => by with_unfolding_all rfl) (by kernel_rfl) (by walk_at "nd") (by walk_at "nd") (fun _ => by with_unfolding_all rfl) (by kernel_rfl) ?_
  intro env hE hcs
  have ok' := ok.deeper env
  have hh := ok'.handled
  try dsimp only at hcs ⊢
  refine law_1 hI hxl hL hE hcs hh fun b1 R rv k1 hR hrv => ?_
  refine law_2 hR hrv hE hcs ok' fun b2 W wv k2 hW hwv => ?_
  refine law_3 hI hxl (isList_mono hL (Keeps.trans' k1 k2)) hE hh fun b3 F fv fx k3 hF hfv hfl => ?_
  have hR3 := isList_mono hR (Keeps.trans' k2 k3)
  have hW3 := isList_mono hW k3
  have hL3 := isList_mono hL (Keeps.trans' (Keeps.trans' k1 k2) k3)
  refine law_4 hI hxl hL3 hR3 hrv hF hfv hfl hE hcs ok' fun ty tt hty htl => ?_
  refine law_5 hR3 hrv hW3 hwv hE hcs ok' ?_
  refine law_6 hW3 hwv hty htl hE hcs ok' fun b4 Co cv k4 hC hcv => ?_
  refine law_7 (isList_mono hW3 k4) hwv hty htl hE hcs ok' fun gs as Aa Ra mv b5 k5 hA hRa hgs hal hAs hmv => ?_
  refine law_8 (isList_mono hW3 (Keeps.trans' k4 k5)) hwv (isList_mono hC k5) hcv hE hcs ok' fun b6 To tv k6 hTo htv => ?_
  have k56 := Keeps.trans' k5 k6
  refine law_9 (isList_mono hC k56) hcv (isList_mono hA k6) (isList_mono hRa k6) hmv hTo htv (fun p hp => isTuple_mono (hgs p hp) k6) hal hAs hE hcs ok' ?_
  refine law_10 (isList_mono hW3 (Keeps.trans' k4 k56)) hwv (isList_mono hC k56) hcv hty htl hE hcs ok' fun s' ks => ?_
  exact k s' (Keeps.trans' (Keeps.trans' (Keeps.trans' (Keeps.trans' k1 k2) k3) (Keeps.trans' k4 k56)) ks)
end
end Mine
end

-- J1
open PySem PySem.W PySem.Calls PyProof.Rows
set_option Elab.async false
namespace Mine
theorem good_true {s₀ s₁ s' : Shared} {ws : List Int} (hg : s₁.gens = #[]) (k : Keeps s₁ s') :
    GoodWG Challenge.rw_oc0141_01.row.claim (classAt s₀.heap) (ExcName.means s₀.heap) [ofPy (PyData.list (List.map PyData.int ws))] s₁ (Except.ok (Flow.ret (.bool true))) s' := by
  obtain ⟨h', tk, rfl, kk⟩ := k
  refine GoodW.toG ⟨.inl ⟨_, .bool true, [], rfl, fun cls => ?_, ?_, ?_, fun _ => ⟨.nil, fun a h => nomatch h⟩⟩, kk, rfl, hg⟩
  · with_unfolding_all rfl
  · with_unfolding_all constructor
  · with_unfolding_all rfl
end Mine
set_option maxRecDepth 100000 in
set_option maxHeartbeats 8000000 in
theorem PySem.Challenge.cw_oc0141_01_holds : PySem.Challenge.rw_oc0141_01.Holds := by
  w_on
  o_law
  refine holds_open (q := Mine.hd.view_39) (loose := [Str.ofString "_filemode_table"]) (XP := fun _ _ => True) (YP := Mine.hd.hook.says) Mine.hd.left Mine.hd.hook.of Mine.hd.hook.keeps (fun _ _ => trivial) (fun _ _ _ _ _ => trivial) (by rfl) (by rfl) (by rfl) (fun s e => recFacts_of e) (by rfl) (by first | assumption | decide +kernel) (by decide +kernel) ⟨rfl, rfl, rfl, rfl, rfl, by decide +kernel⟩ ?hw ?hc
  case hw => w_witness2
  intro w s₀ s₁ mg mb G Y fa o pm cd doc dV kV ho hd hcd hD hmg hg args vals as hpre hlay hrd hwl hlo
  have KX : (Mine.hd.heap_39 w.params).In s₁.heap := Y
  refine Ground.open G ?_
  intro T B D TE TW
  have hf : mg (Str.ofString "law") = some (.ref 141) := mg_of KX T.g (by kernel_rfl)
  have hfa : fa = 141 := by
    have e : some (Value.ref fa) = some (.ref 141) := hmg.symm.trans hf
    cases e; rfl
  subst hfa
  have GD : Mine.Gd w s₁.heap := ⟨KX, ⟨mb, T.b, T.builtins⟩, T.nolimit⟩
  clear TE TW B D ho hd hcd hD hmg hf T KX Y G
  wrow_args hpre hlay hrd hwl hlo
  rename_i hI _ hc _
  refine Mine.law_spec hI (by omega) (by assumption) ⟨rfl, by decide, by decide⟩ GD fun s' k => Mine.good_true hg k
