import PyProof.Rows.All
import Wide.All
import OpenK.AllK
import Wide.FinOn
import PySem.Challenge.RW_qu0052_01
set_option Elab.async false
set_option maxRecDepth 100000
set_option linter.unusedVariables false

section
open PySem PySem.W PySem.Calls PyProof.Rows
set_option Elab.async false
set_option maxRecDepth 100000
namespace Mine

/-- values without tokens -/
inductive V where
  | none
  | bool (b : Bool)
  | int (i : Int)
  | str (s : List Nat)
  | ref (a : Addr)
  | ty (n : String)
  | bi (n : String)

noncomputable def VR : V → Value → Prop
  | .none, v => v = .none
  | .bool b, v => v = .bool b
  | .int i, v => ∃ t, v = .int i t
  | .str s, v => ∃ t, v = .str ⟨s.toArray⟩ t
  | .ref a, v => v = .ref a
  | .ty n, v => v = .type n
  | .bi n, v => v = .builtin n

noncomputable def VRs : List V → List Value → Prop
  | [], [] => True
  | v :: vs, x :: xs => VR v x ∧ VRs vs xs
  | _, _ => False

theorem VRs.uncons {v : V} {vs : List V} {xs : List Value} (h : VRs (v :: vs) xs) : ∃ x ys, xs = x :: ys ∧ VR v x ∧ VRs vs ys := by
  cases xs with
  | nil => exact (h : False).elim
  | cons x ys => exact ⟨x, ys, rfl, h.1, h.2⟩
theorem VRs.unnil {xs : List Value} (h : VRs [] xs) : xs = [] := by
  cases xs with
  | nil => rfl
  | cons x ys => exact (h : False).elim
theorem VRs.one {v : V} {xs : List Value} (h : VRs [v] xs) : ∃ x, xs = [x] ∧ VR v x := by
  obtain ⟨x, ys, rfl, r, h⟩ := h.uncons
  exact ⟨x, by rw [h.unnil], r⟩
theorem VRs.two {v w : V} {xs : List Value} (h : VRs [v, w] xs) : ∃ x y, xs = [x, y] ∧ VR v x ∧ VR w y := by
  obtain ⟨x, ys, rfl, r, h⟩ := h.uncons
  obtain ⟨y, rfl, r'⟩ := h.one
  exact ⟨x, y, rfl, r, r'⟩
theorem VRs.thr {v w u : V} {xs : List Value} (h : VRs [v, w, u] xs) : ∃ x y z, xs = [x, y, z] ∧ VR v x ∧ VR w y ∧ VR u z := by
  obtain ⟨x, ys, rfl, r, h⟩ := h.uncons
  obtain ⟨y, z, rfl, r'⟩ := h.two
  exact ⟨x, y, z, rfl, r, r'⟩

noncomputable def OptR : Option V → Option Value → Prop
  | .none, .none => True
  | .some v, .some x => VR v x
  | _, _ => False

theorem VRs.length : ∀ {vs : List V} {xs : List Value}, VRs vs xs → vs.length = xs.length
  | [], [], _ => rfl
  | _ :: _, _ :: _, h => by simp [VRs.length h.2]
  | [], _ :: _, h => h.elim
  | _ :: _, [], h => h.elim
theorem VRs.get : ∀ {vs : List V} {xs : List Value}, VRs vs xs → ∀ {i : Nat} {v : V}, vs[i]? = some v → ∃ x, xs[i]? = some x ∧ VR v x
  | [], [], _, i, v, e => by simp at e
  | a :: vs, x :: xs, h, 0, v, e => by
    simp at e; subst e; exact ⟨x, by simp, h.1⟩
  | a :: vs, x :: xs, h, i + 1, v, e => by
    simp at e
    obtain ⟨y, hy, r⟩ := VRs.get h.2 e
    exact ⟨y, by simpa using hy, r⟩
  | [], _ :: _, h, _, _, _ => h.elim
  | _ :: _, [], h, _, _, _ => h.elim
theorem VRs.append : ∀ {vs ws : List V} {xs ys : List Value}, VRs vs xs → VRs ws ys → VRs (vs ++ ws) (xs ++ ys)
  | [], _, [], _, _, h => h
  | _ :: _, _, _ :: _, _, h, h' => ⟨h.1, VRs.append h.2 h'⟩
  | [], _, _ :: _, _, h, _ => h.elim
  | _ :: _, _, [], _, h, _ => h.elim
theorem VRs.reverse {vs : List V} {xs : List Value} (h : VRs vs xs) : VRs vs.reverse xs.reverse := by
  induction vs generalizing xs with
  | nil => cases xs with
    | nil => trivial
    | cons _ _ => exact h.elim
  | cons v vs ih => cases xs with
    | nil => exact h.elim
    | cons x xs => rw [List.reverse_cons, List.reverse_cons]; exact VRs.append (ih h.2) ⟨h.1, trivial⟩
theorem VRs.drop : ∀ (n : Nat) {vs : List V} {xs : List Value}, VRs vs xs → VRs (vs.drop n) (xs.drop n)
  | 0, _, _, h => h
  | n + 1, [], [], _ => by simp [VRs]
  | n + 1, _ :: _, _ :: _, h => by simpa using VRs.drop n h.2
  | _ + 1, [], _ :: _, h => h.elim
  | _ + 1, _ :: _, [], h => h.elim
theorem VRs.take : ∀ (n : Nat) {vs : List V} {xs : List Value}, VRs vs xs → VRs (vs.take n) (xs.take n)
  | 0, _, _, _ => by simp [VRs]
  | n + 1, [], [], _ => by simp [VRs]
  | n + 1, _ :: _, _ :: _, h => by simpa [VRs] using ⟨h.1, VRs.take n h.2⟩
  | _ + 1, [], _ :: _, h => h.elim
  | _ + 1, _ :: _, [], h => h.elim
theorem VRs.set : ∀ (i : Nat) {vs : List V} {xs : List Value} {v : V} {x : Value}, VRs vs xs → VR v x → VRs (vs.set i v) (xs.set i x)
  | _, [], [], _, _, _, _ => by simp [VRs]
  | 0, _ :: _, _ :: _, _, _, h, r => by simpa [VRs] using ⟨r, h.2⟩
  | i + 1, _ :: _, _ :: _, _, _, h, r => by simpa [VRs] using ⟨h.1, VRs.set i h.2 r⟩
  | _, [], _ :: _, _, _, h, _ => h.elim
  | _, _ :: _, [], _, _, h, _ => h.elim

/-- what stands at an address -/
inductive O where
  | ns (m : List (Str × V))
  | list (xs : List V)
  | tup (xs : List V)
  | cell (v : Option V)
  | liter (l : Addr) (i : Nat)
  | riter (l : Addr) (i : Int)
  | siter (x : List Nat) (i : Nat)
  | fld (cls : String) (xs : List V)
  | clo (fd : FuncData) (d : Option Addr)
  | raw (o : Obj)
  | dct (m : List (Str × V))

/-- the entries of a dict of names, in their order -/
noncomputable def EsR : List (Str × V) → List DictEntry → Prop
  | [], [] => True
  | (x, v) :: m, e :: es => (∃ t, e.key = .str x t) ∧ VR v e.val ∧ EsR m es
  | _, _ => False

noncomputable def OR : O → Obj → Prop
  | .ns m, o => (m.map (·.1)).Nodup ∧ ∃ es ep, o.data = .dict es ep ∧ StrKeys es ∧ ∀ x v, (x, v) ∈ m → ∃ y, nsFind es x = some y ∧ VR v y
  | .list xs, o => ∃ its n, o = ⟨.type "list", Option.none, .seq its n, #[]⟩ ∧ VRs xs its.toList
  | .tup xs, o => ∃ its n, o = ⟨.type "tuple", Option.none, .seq its n, #[]⟩ ∧ VRs xs its.toList
  | .cell v, o => ∃ x, o.data = .cell x ∧ OptR v x
  | .liter l i, o => o.cls = .type "list_iterator" ∧ o.data = .fields #[.ref l, .int i 0]
  | .riter l i, o => o.cls = .type "list_reverseiterator" ∧ o.data = .fields #[.ref l, rawInt i]
  | .siter x i, o => o.cls = .type "str_ascii_iterator" ∧ ∃ t, o.data = .fields #[.str ⟨x.toArray⟩ t, .int i 0]
  | .fld c xs, o => ∃ its, o = ⟨.type c, Option.none, .fields its, #[]⟩ ∧ VRs xs its.toList
  | .clo fd d, o => o = ⟨.type "function", d, .func fd, #[]⟩
  | .raw o', o => o = o'
  | .dct m, o => ∃ es n, o = dictOf es n ∧ EsR m es

noncomputable def Holds (h : Heap) (a : Addr) (o : O) : Prop := ∃ co, h.get? a = some co ∧ OR o co

structure Cx where
  prog : Program
  w : World
  s₁ : Shared

noncomputable abbrev Cx.M (c : Cx) : Model := model c.prog c.w

/-- the tables of code that a call may grow: _int2digits, _digits2int, _law_lexer -/
noncomputable def tabsL : List Addr := [30, 37, 117]
/-- the qualified name of the inner def that stands at a line -/
noncomputable def qualAt (p : Pos) : Str :=
  if p.line = 32 then "_int2digits.<locals>.inner" else if p.line = 47 then "_digits2int.<locals>.inner"
  else if p.line = 180 then "_law_lexer.<locals>._law_read_on" else "_law_lexer.<locals>.<lambda>"
noncomputable def CodeZ (Z : List (Addr × Obj)) (a : Addr) (q : Str) : Prop := ∃ o vs t, (a, o) ∈ Z ∧ o.data = .fields vs ∧ vs[1]? = some (.str q t)
noncomputable def TabsZ (Z : List (Addr × Obj)) (h : Heap) : Prop :=
  ∀ P ∈ tabsL, ∃ ps : Array Value, h.get? P = some (tabObj ps) ∧ TriplesOk ps.toList ∧ ∀ pos x, codeAmong pos ps.toList = some x → ∃ a, x = .ref a ∧ CodeZ Z a (qualAt pos)
noncomputable def ClosZ (Z : List (Addr × Obj)) (H : List (Addr × O)) : Prop := ∀ f fd d, (f, O.clo fd d) ∈ H → ∃ a, fd.code = .ref a ∧ CodeZ Z a fd.qualname

structure St' (c : Cx) (H : List (Addr × O)) (h : Heap) : Prop where
  keep : ∀ a o, c.s₁.heap.get? a = some o → a ∉ tabsL → h.get? a = some o
  own : ∀ p ∈ H, Holds h p.1 p.2
  nodup : (H.map (·.1)).Nodup
  new : ∀ p ∈ H, c.s₁.heap.get? p.1 = none
  fz : ∃ Z : List (Addr × Obj), (∀ p ∈ Z, h.get? p.1 = some p.2 ∧ c.s₁.heap.get? p.1 = none ∧ p.1 ∉ H.map (·.1)) ∧ TabsZ Z h ∧ ClosZ Z H

structure St (c : Cx) (H : List (Addr × O)) (s : Shared) : Prop where
  st : St' c H s.heap
  os : s.os = c.s₁.os
  gens : s.gens = c.s₁.gens

/-- what is asked of the beginning -/
noncomputable def globTab : List (Str × V) := [("_DIV_LIMIT", .int 4000), ("_div2n1n", .ref 21), ("_int2digits", .ref 35), ("_digits2int", .ref 42), ("_divmod_pos", .ref 49), ("int_divmod", .ref 56), ("_netrclex", .ref 94),
  ("ENDMARKER", .int 0), ("NT_OFFSET", .int 256), ("EXACT_TOKEN_TYPES", .ref 99), ("ISNONTERMINAL", .ref 108), ("ISEOF", .ref 115), ("_law_lexer", .ref 122), ("_law_written", .ref 127), ("_law_drawn", .ref 132),
  ("_law_edges", .ref 137), ("_law_worth", .ref 144), ("_law_stalk", .ref 149), ("_law_one_of", .ref 156), ("_law_played", .ref 161)]
noncomputable def biTab : List (Str × V) := [("len", .bi "len"), ("range", .ty "range"), ("max", .bi "max"), ("iter", .bi "iter"), ("reversed", .ty "reversed"), ("divmod", .bi "divmod"), ("abs", .bi "abs")]
-- the objects of the text's own defs, out of the row
noncomputable def stAt (i : Nat) : Stmt := (PySem.Challenge.pw_qu0052_01.main.body[i]?).getD (.Pass default)
noncomputable def inCls (j : Nat) : Stmt → Stmt
  | .ClassDef _ _ _ body _ _ _ _ _ _ _ => (body[j]?).getD (.Pass default)
  | st => st
noncomputable def fnO (st : Stmt) (qual pm : Str) (t : Tok) (ca : Addr) : Obj := match st with
  | .FunctionDef name params body _ _ _ scope _ _ _ => ⟨.type "function", none, .func ⟨name, qual, params, .stmts body, scope, mainGlobals, [], .none, .none, .none, .str pm t, none, .ref ca, .none, builtinsNs⟩, #[]⟩
  | _ => default
noncomputable def keyE (P : Params) (x : Str) (t : Tok) (v : Value) : DictEntry := ⟨PyData.keyHash P x, .str x t, v⟩
noncomputable def KO (P : Params) : Frag := [
  (21, fnO (stAt 2) "_div2n1n" "cpy313._pylong" 187 20), (35, fnO (stAt 4) "_int2digits" "cpy313._pylong" 187 34), (42, fnO (stAt 5) "_digits2int" "cpy313._pylong" 187 41),
  (49, fnO (stAt 6) "_divmod_pos" "cpy313._pylong" 187 48), (56, fnO (stAt 7) "int_divmod" "cpy313._pylong" 187 55),
  (70, fnO (inCls 0 (stAt 9)) "_netrclex.__init__" "cpy313.netrc" 269 69), (77, fnO (inCls 1 (stAt 9)) "_netrclex._read_char" "cpy313.netrc" 269 76),
  (84, fnO (inCls 2 (stAt 9)) "_netrclex.get_token" "cpy313.netrc" 269 83), (91, fnO (inCls 3 (stAt 9)) "_netrclex.push_token" "cpy313.netrc" 269 90),
  (93, ⟨.type "dict", none, .dict #[keyE P "__module__" 278 (.str "cpy313.netrc" 269), keyE P "__firstlineno__" 282 (.int 77 281), keyE P "__init__" 290 (.ref 70), keyE P "_read_char" 298 (.ref 77), keyE P "get_token" 308 (.ref 84), keyE P "push_token" 316 (.ref 91),
    keyE P "__static_attributes__" 321 (.ref 92), keyE P "__dict__" 323 (.ref 95), keyE P "__weakref__" 325 (.ref 96), keyE P "__doc__" 326 .none] 4, #[]⟩),
  (94, ⟨.type "type", none, .cls { name := "_netrclex", bases := [.type "object"], mro := [.ref 94, .type "object"], ns := 93, qualname := "_netrclex" }, #[none, none, some (.str "_netrclex" 271), some (.str "_netrclex" 279), some (.builtin "object.__new__"), some (.bool true)]⟩),
  (108, fnO (stAt 62) "ISNONTERMINAL" "cpy313.token" 329 107), (115, fnO (stAt 63) "ISEOF" "cpy313.token" 329 114),
  (122, fnO (stAt 65) "_law_lexer" "law_qu0052_01" 542 121), (127, fnO (stAt 66) "_law_written" "law_qu0052_01" 542 126), (132, fnO (stAt 67) "_law_drawn" "law_qu0052_01" 542 131),
  (137, fnO (stAt 68) "_law_edges" "law_qu0052_01" 542 136), (144, fnO (stAt 69) "_law_worth" "law_qu0052_01" 542 143), (149, fnO (stAt 70) "_law_stalk" "law_qu0052_01" 542 148),
  (156, fnO (stAt 71) "_law_one_of" "law_qu0052_01" 542 155), (161, fnO (stAt 72) "_law_played" "law_qu0052_01" 542 160), (166, fnO (stAt 73) "law" "law_qu0052_01" 542 165)]
noncomputable def codeTab : List (Addr × Str) := [(20, "_div2n1n"), (34, "_int2digits"), (41, "_digits2int"), (48, "_divmod_pos"), (55, "int_divmod"), (69, "_netrclex.__init__"), (76, "_netrclex._read_char"), (83, "_netrclex.get_token"), (90, "_netrclex.push_token"),
  (107, "ISNONTERMINAL"), (114, "ISEOF"), (121, "_law_lexer"), (126, "_law_written"), (131, "_law_drawn"), (136, "_law_edges"), (143, "_law_worth"), (148, "_law_stalk"), (155, "_law_one_of"), (160, "_law_played"), (165, "law")]
noncomputable def tokTab : List (List Nat × Int) := [([33], 54), ([33, 61], 28), ([37], 24), ([37, 61], 40), ([38], 19), ([38, 61], 41), ([40], 7), ([41], 8), ([42], 16), ([42, 42], 35), ([42, 42, 61], 46), ([42, 61], 38), ([43], 14), ([43, 61], 36), ([44], 12), ([45], 15), ([45, 61], 37), ([45, 62], 51), ([46], 23), ([46, 46, 46], 52), ([47], 17), ([47, 47], 47), ([47, 47, 61], 48), ([47, 61], 39), ([58], 11), ([58, 61], 53), ([59], 13), ([60], 20), ([60, 60], 33), ([60, 60, 61], 44), ([60, 61], 29), ([61], 22), ([61, 61], 27), ([62], 21), ([62, 61], 30), ([62, 62], 34), ([62, 62, 61], 45), ([64], 49), ([64, 61], 50), ([91], 9), ([93], 10), ([94], 32), ([94, 61], 43), ([123], 25), ([124], 18), ([124, 61], 42), ([125], 26), ([126], 31)]
noncomputable def TokR : List (List Nat × Int) → List DictEntry → Prop
  | [], [] => True
  | (k, i) :: r, e :: es => (∃ t u, e.key = .str ⟨k.toArray⟩ t ∧ e.val = .int i u) ∧ TokR r es
  | _, _ => False
structure Good (c : Cx) : Prop where
  tabs : ∀ P ∈ tabsL, ∃ o, c.s₁.heap.get? P = some o
  glob : ∃ mg mb, c.s₁.heap.Ns mainGlobals mg ∧ c.s₁.heap.Ns builtinsNs mb ∧ (∀ x v, (x, v) ∈ globTab → ∃ y, mg x = some y ∧ VR v y) ∧ ∀ x v, (x, v) ∈ biTab → mg x = none ∧ ∃ y, mb x = some y ∧ VR v y
  nolimit : c.s₁.heap.NoLimit
  kx : (KO c.w.params).In c.s₁.heap
  codes : ∀ ca q, codeTab.lookup ca = some q → ∃ o fs t, c.s₁.heap.get? ca = some o ∧ o.data = .fields fs ∧ fs[1]? = some (.str q t)
  heads : CodeHd c.s₁.heap 34 30 ∧ CodeHd c.s₁.heap 41 37 ∧ CodeHd c.s₁.heap 121 117
  tok : ∃ es n, c.s₁.heap.get? 99 = some ⟨.type "dict", none, .dict es n, #[]⟩ ∧ KeysLit c.w.params es.toList ∧ TokR tokTab es.toList
  bm : ∃ mg bm o, c.s₁.heap.Ns mainGlobals mg ∧ mg "__builtins__" = some (.ref bm) ∧ bm ≠ builtinsNs ∧ bm ∉ tabsL ∧ c.s₁.heap.get? bm = some o ∧ o.cls = .type "module" ∧ o.dict = some builtinsNs ∧ o.data = .plain

section
variable {c : Cx} {H H' : List (Addr × O)} {s : Shared} {h h' : Heap} {a : Addr} {o o' : O}

theorem Holds.same (x : Holds h a o) (e : h'.get? a = h.get? a) : Holds h' a o := let ⟨co, g, r⟩ := x; ⟨co, e.trans g, r⟩
theorem Holds.keeps (x : Holds h a o) (k : ∀ b o, h.get? b = some o → h'.get? b = some o) : Holds h' a o := let ⟨co, g, r⟩ := x; ⟨co, k _ _ g, r⟩
theorem Holds.lt (x : Holds h a o) : a < h.objs.size := let ⟨_, g, _⟩ := x; Heap.lt_size g

/-- an address of the own objects is none of the old ones, and no table -/
theorem St'.ne_old (S : St' c H h) (G : Good c) (hm : (a, o) ∈ H) : a ∉ tabsL := fun ht => by
  obtain ⟨x, hx⟩ := G.tabs a ht
  have := S.new _ hm
  rw [hx] at this; cases this
theorem St'.fresh (S : St' c H h) : c.s₁.heap.get? h.objs.size = none := by
  cases q : c.s₁.heap.get? h.objs.size with
  | none => rfl
  | some o =>
    by_cases ht : h.objs.size ∈ tabsL
    · obtain ⟨Z, _, hT, _⟩ := S.fz
      obtain ⟨ps, hp, _⟩ := hT _ ht
      exact absurd (Heap.lt_size hp) (Nat.lt_irrefl _)
    · exact absurd (Heap.lt_size (S.keep _ _ q ht)) (Nat.lt_irrefl _)

theorem St'.ns (S : St' c H h) {m : Str → Option Value} (n : c.s₁.heap.Ns a m) (ht : a ∉ tabsL) : h.Ns a m := let ⟨o, es, ep, ho, r⟩ := n; ⟨o, es, ep, S.keep _ _ ho ht, r⟩
theorem St'.nolimit (S : St' c H h) (G : Good c) : h.NoLimit := let ⟨mc, n, r⟩ := G.nolimit; ⟨mc, S.ns n (by decide), r⟩
/-- a larger heap -/
theorem St'.ext (S : St' c H h) (k : ∀ b o, h.get? b = some o → h'.get? b = some o) : St' c H h' := by
  obtain ⟨Z, hZ, hT, hC⟩ := S.fz
  exact ⟨fun a o e ht => k _ _ (S.keep a o e ht), fun p hp => (S.own p hp).keeps k, S.nodup, S.new, Z, fun p hp => ⟨k _ _ (hZ p hp).1, (hZ p hp).2⟩, fun P hP => by
    obtain ⟨ps, hp, r⟩ := hT P hP
    exact ⟨ps, k _ _ hp, r⟩, hC⟩
/-- fewer objects -/
theorem St'.drop (S : St' c H h) (hs : ∀ p ∈ H', p ∈ H) (hn : (H'.map (·.1)).Nodup) : St' c H' h := by
  obtain ⟨Z, hZ, hT, hC⟩ := S.fz
  exact ⟨S.keep, fun p hp => S.own p (hs p hp), hn, fun p hp => S.new p (hs p hp), Z, fun p hp => ⟨(hZ p hp).1, (hZ p hp).2.1, fun q => (hZ p hp).2.2 (by
    obtain ⟨r, hr, e⟩ := List.mem_map.mp q
    exact List.mem_map.mpr ⟨r, hs r hr, e⟩)⟩, hT, fun f fd d hm => hC f fd d (hs _ hm)⟩
theorem St'.tail {p : Addr × O} (S : St' c (p :: H) h) : St' c H h :=
  S.drop (fun _ hq => .tail _ hq) (by have := S.nodup; rw [List.map_cons] at this; exact (List.nodup_cons.mp this).2)
theorem St'.suffix {X : List (Addr × O)} (S : St' c (X ++ H) h) : St' c H h := by
  induction X with
  | nil => exact S
  | cons p X ih => exact ih S.tail
theorem St'.perm (S : St' c H h) (hp : H.Perm H') : St' c H' h :=
  S.drop (fun _ hq => hp.mem_iff.mpr hq) ((hp.map _).nodup_iff.mp S.nodup)

/-- a new object at the heap's end, in a heap that keeps the rest -/
theorem St'.push (S : St' c H h) (k : ∀ b o, h.get? b = some o → h'.get? b = some o) (ho : Holds h' h.objs.size o)
    (hc : ∀ fd d, o = .clo fd d → ∀ Z, TabsZ Z h → (∀ p ∈ Z, h.get? p.1 = some p.2) → ∃ a, fd.code = .ref a ∧ CodeZ Z a fd.qualname) : St' c ((h.objs.size, o) :: H) h' := by
  have S' := S.ext k
  obtain ⟨Z, hZ, hT, hC⟩ := S.fz
  refine ⟨S'.keep, fun p hp => ?_, ?_, fun p hp => ?_, Z, fun p hp => ⟨k _ _ (hZ p hp).1, (hZ p hp).2.1, fun q => ?_⟩, fun P hP => ?_, fun f fd d hm => ?_⟩
  · rcases List.mem_cons.mp hp with rfl | hp
    · exact ho
    · exact S'.own p hp
  · rw [List.map_cons]
    refine List.nodup_cons.mpr ⟨fun q => ?_, S.nodup⟩
    obtain ⟨p, hp, e⟩ := List.mem_map.mp q
    have := (S.own p hp).lt
    exact absurd (show p.1 < p.1 from Nat.lt_of_lt_of_eq this e.symm) (Nat.lt_irrefl _)
  · rcases List.mem_cons.mp hp with rfl | hp
    · exact S.fresh
    · exact S.new p hp
  · rw [List.map_cons] at q
    rcases List.mem_cons.mp q with e | q
    · have := Heap.lt_size (hZ p hp).1
      exact absurd (show p.1 < p.1 from Nat.lt_of_lt_of_eq this e.symm) (Nat.lt_irrefl _)
    · exact (hZ p hp).2.2 q
  · obtain ⟨ps, hp, r⟩ := hT P hP
    exact ⟨ps, k _ _ hp, r⟩
  · rcases List.mem_cons.mp hm with e | hm
    · cases e
      exact hc fd d rfl Z hT fun p hp => (hZ p hp).1
    · exact hC f fd d hm

/-- one own object turned -/
inductive UpdH (a : Addr) (o o' : O) : List (Addr × O) → List (Addr × O) → Prop
  | head {r} : UpdH a o o' ((a, o) :: r) ((a, o') :: r)
  | tail {p r r'} : UpdH a o o' r r' → UpdH a o o' (p :: r) (p :: r')
theorem UpdH.mem (u : UpdH a o o' H H') : (a, o) ∈ H := by
  induction u with
  | head => exact .head _
  | tail _ ih => exact .tail _ ih
theorem UpdH.keys (u : UpdH a o o' H H') : H'.map (·.1) = H.map (·.1) := by
  induction u with
  | head => rfl
  | tail _ ih => rw [List.map_cons, List.map_cons, ih]
theorem UpdH.of_mem (u : UpdH a o o' H H') {p : Addr × O} (hp : p ∈ H') : p = (a, o') ∨ p ∈ H := by
  induction u with
  | head => rcases List.mem_cons.mp hp with rfl | hp
            · exact .inl rfl
            · exact .inr (.tail _ hp)
  | tail _ ih => rcases List.mem_cons.mp hp with rfl | hp
                 · exact .inr (.head _)
                 · exact (ih hp).imp id (.tail _)
theorem nodup_unique : ∀ {H : List (Addr × O)}, (H.map (·.1)).Nodup → ∀ {p q : Addr × O}, p ∈ H → q ∈ H → p.1 = q.1 → p = q
  | [], _, _, _, hp, _, _ => nomatch hp
  | x :: H, hn, p, q, hp, hq, e => by
    rw [List.map_cons] at hn
    obtain ⟨h1, h2⟩ := List.nodup_cons.mp hn
    rcases List.mem_cons.mp hp with e1 | hp'
    · rcases List.mem_cons.mp hq with e2 | hq'
      · rw [e1, e2]
      · exact absurd (show x.1 ∈ H.map (·.1) from List.mem_map.mpr ⟨q, hq', by rw [← e, e1]⟩) h1
    · rcases List.mem_cons.mp hq with e2 | hq'
      · exact absurd (show x.1 ∈ H.map (·.1) from List.mem_map.mpr ⟨p, hp', by rw [e, e2]⟩) h1
      · exact nodup_unique h2 hp' hq' e
/-- behind UpdH every entry but a's own is an old one at another address -/
theorem UpdH.other (u : UpdH a o o' H H') (hn : (H.map (·.1)).Nodup) {p : Addr × O} (hp : p ∈ H') : p = (a, o') ∨ (p ∈ H ∧ p.1 ≠ a) := by
  induction u with
  | head =>
    rw [List.map_cons] at hn
    obtain ⟨h1, h2⟩ := List.nodup_cons.mp hn
    rcases List.mem_cons.mp hp with rfl | hp
    · exact .inl rfl
    · exact .inr ⟨.tail _ hp, fun e => h1 (List.mem_map.mpr ⟨p, hp, e⟩)⟩
  | tail u ih =>
    rw [List.map_cons] at hn
    obtain ⟨h1, h2⟩ := List.nodup_cons.mp hn
    rcases List.mem_cons.mp hp with rfl | hp
    · refine .inr ⟨.head _, fun e => h1 (List.mem_map.mpr ⟨_, u.mem, e.symm⟩)⟩
    · exact (ih h2 hp).imp id fun ⟨x, y⟩ => ⟨.tail _ x, y⟩
theorem St'.upd (S : St' c H h) (G : Good c) (u : UpdH a o o' H H') (e : Heap.ExtBut a h h') (ho : Holds h' a o')
    (hc : ∀ fd d, o' = .clo fd d → ∃ d', o = .clo fd d') : St' c H' h' := by
  obtain ⟨Z, hZ, hT, hC⟩ := S.fz
  have nt := S.ne_old G u.mem
  have k : ∀ b x, b ≠ a → h.get? b = some x → h'.get? b = some x := fun b x hb q => e b x hb q
  refine ⟨fun b x q ht => k b x ?_ (S.keep b x q ht), fun p hp => ?_, by rw [u.keys]; exact S.nodup, fun p hp => ?_, Z, fun p hp => ⟨k _ _ ?_ (hZ p hp).1, (hZ p hp).2.1, by rw [u.keys]; exact (hZ p hp).2.2⟩, fun P hP => ?_, fun f fd d hm => ?_⟩
  · rintro rfl
    have := S.new _ u.mem
    rw [q] at this; cases this
  · rcases u.other S.nodup hp with rfl | ⟨hp, hne⟩
    · exact ho
    · obtain ⟨co, g, r⟩ := S.own p hp
      exact ⟨co, k _ _ hne g, r⟩
  · rcases u.of_mem hp with rfl | hp
    · exact (show c.s₁.heap.get? a = none from S.new _ u.mem)
    · exact S.new p hp
  · rintro rfl
    exact (hZ p hp).2.2 (List.mem_map.mpr ⟨_, u.mem, rfl⟩)
  · obtain ⟨ps, hp, r⟩ := hT P hP
    exact ⟨ps, k _ _ (fun q => nt (q ▸ hP)) hp, r⟩
  · rcases u.of_mem hm with q | hm
    · cases q
      obtain ⟨d', rfl⟩ := hc fd d rfl
      exact hC _ fd d' u.mem
    · exact hC f fd d hm
/-- one own object gone, the rest as it was -/
theorem St'.but (S : St' c ((a, o) :: H) h) (G : Good c) (e : Heap.ExtBut a h h') : St' c H h' := by
  obtain ⟨Z, hZ, hT, hC⟩ := S.fz
  have nt := S.ne_old G (.head _)
  have hn := S.nodup
  rw [List.map_cons] at hn
  obtain ⟨h1, h2⟩ := List.nodup_cons.mp hn
  have k : ∀ b x, b ≠ a → h.get? b = some x → h'.get? b = some x := fun b x hb q => e b x hb q
  refine ⟨fun b x q ht => k b x ?_ (S.keep b x q ht), fun p hp => ?_, h2, fun p hp => S.new p (.tail _ hp), Z, fun p hp => ⟨k _ _ ?_ (hZ p hp).1, (hZ p hp).2.1, fun q => (hZ p hp).2.2 (.tail _ q)⟩, fun P hP => ?_, fun f fd d hm => hC f fd d (.tail _ hm)⟩
  · rintro rfl
    have := S.new _ (List.Mem.head _)
    rw [q] at this; cases this
  · obtain ⟨co, g, r⟩ := S.own p (.tail _ hp)
    exact ⟨co, k _ _ (fun q => h1 (List.mem_map.mpr ⟨p, hp, q⟩)) g, r⟩
  · rintro rfl
    exact (hZ p hp).2.2 (.head _)
  · obtain ⟨ps, hp, r⟩ := hT P hP
    exact ⟨ps, k _ _ (fun q => nt (q ▸ hP)) hp, r⟩
theorem St.toks (S : St c H s) (t : Nat) : St c H { s with toks := t } := ⟨S.st, S.os, S.gens⟩
theorem St.ext (S : St c H s) (k : ∀ b o, s.heap.get? b = some o → h'.get? b = some o) (t : Nat) : St c H { s with heap := h', toks := t } := ⟨S.st.ext k, S.os, S.gens⟩
theorem St.tail {p : Addr × O} (S : St c (p :: H) s) : St c H s := ⟨S.st.tail, S.os, S.gens⟩
theorem St.suffix {X : List (Addr × O)} (S : St c (X ++ H) s) : St c H s := ⟨S.st.suffix, S.os, S.gens⟩
theorem St.perm (S : St c H s) (hp : H.Perm H') : St c H' s := ⟨S.st.perm hp, S.os, S.gens⟩
theorem St.push (S : St c H s) (k : ∀ b o, s.heap.get? b = some o → h'.get? b = some o) (ho : Holds h' s.heap.objs.size o) (t : Nat)
    (hc : ∀ fd d, o = .clo fd d → ∀ Z, TabsZ Z s.heap → (∀ p ∈ Z, s.heap.get? p.1 = some p.2) → ∃ a, fd.code = .ref a ∧ CodeZ Z a fd.qualname) : St c ((s.heap.objs.size, o) :: H) { s with heap := h', toks := t } :=
  ⟨S.st.push k ho hc, S.os, S.gens⟩
theorem St.upd (S : St c H s) (G : Good c) (u : UpdH a o o' H H') (e : Heap.ExtBut a s.heap h') (ho : Holds h' a o') (t : Nat) (hc : ∀ fd d, o' = .clo fd d → ∃ d', o = .clo fd d') : St c H' { s with heap := h', toks := t } :=
  ⟨S.st.upd G u e ho hc, S.os, S.gens⟩
theorem St.but (S : St c ((a, o) :: H) s) (G : Good c) (e : Heap.ExtBut a s.heap h') (t : Nat) : St c H { s with heap := h', toks := t } := ⟨S.st.but G e, S.os, S.gens⟩
end
-- goals for every state that bears these objects
noncomputable def T (c : Cx) (H : List (Addr × O)) (P : Shared → Prop) : Prop := ∀ s, St c H s → P s
theorem T.run {c : Cx} {H : List (Addr × O)} {P : Shared → Prop} {s : Shared} (S : St c H s) (h : T c H P) : P s := h s S
theorem T.l1 {c : Cx} {H : List (Addr × O)} {P P' : Shared → Prop} (f : ∀ s, P' s → P s) (h : T c H P') : T c H P := fun s S => f s (h s S)
theorem T.lS {c : Cx} {H : List (Addr × O)} {P P' : Shared → Prop} (f : ∀ s, St c H s → P' s → P s) (h : T c H P') : T c H P := fun s S => f s S (h s S)
theorem T.l2 {c : Cx} {H H' : List (Addr × O)} {P P' : Shared → Prop} (f : ∀ s, St c H s → (∀ s, St c H' s → P' s) → P s) (h : T c H' P') : T c H P := fun s S => f s S h
theorem T.l3 {c : Cx} {H : List (Addr × O)} {H' : Addr → List (Addr × O)} {P : Shared → Prop} {P' : Addr → Shared → Prop} (f : ∀ s, St c H s → (∀ a s, St c (H' a) s → P' a s) → P s) (h : ∀ a, T c (H' a) (P' a)) : T c H P := fun s S => f s S fun a => h a
theorem T.all {c : Cx} {H : List (Addr × O)} {v : V} {P : Value → Shared → Prop} (h : ∀ y, VR v y → T c H (P y)) : T c H (fun s => ∀ y, VR v y → P y s) := fun s S y r => h y r s S
end Mine
end

section
open PySem PySem.W PySem.Calls PyProof.Rows
set_option Elab.async false
set_option maxRecDepth 100000
set_option linter.unusedVariables false
namespace Mine

noncomputable def NoE : Value → Shared → Prop := fun _ _ => False
noncomputable def wpV (c : Cx) (A : Around) (t : Sem Value) (Q : V → Shared → Prop) (s : Shared) : Prop := wpAny c.M A t (fun x s' => ∃ v, VR v x ∧ Q v s') NoE s
inductive F where
  | next | brk | cont
  | ret (v : V)
noncomputable def FR : F → Flow → Prop
  | .next, f => f = .next
  | .brk, f => f = .brk
  | .cont, f => f = .cont
  | .ret v, f => ∃ x, f = .ret x ∧ VR v x
noncomputable def wpS (c : Cx) (A : Around) (t : Sem Flow) (Q : F → Shared → Prop) (s : Shared) : Prop := wpAny c.M A t (fun f s' => ∃ g, FR g f ∧ Q g s') NoE s
noncomputable def wpB (c : Cx) (A : Around) (t : Sem Bool) (Q : Bool → Shared → Prop) (s : Shared) : Prop := wpAny c.M A t Q NoE s
noncomputable def wpU (c : Cx) (A : Around) (t : Sem Unit) (Q : Shared → Prop) (s : Shared) : Prop := wpAny c.M A t (fun _ s' => Q s') NoE s
noncomputable def wpL (c : Cx) (A : Around) (t : Sem (List Value)) (Q : List V → Shared → Prop) (s : Shared) : Prop := wpAny c.M A t (fun xs s' => ∃ vs, VRs vs xs ∧ Q vs s') NoE s

/-- room to go k deep -/
structure Room (k : Nat) (A : Around) : Prop where
  handled : A.handled = none
  depth : A.depth + k < recursionLimit
  units : A.units + 16 * k < cLine
theorem Room.le {k k' : Nat} {A : Around} (r : Room k A) (h : k' ≤ k) : Room k' A :=
  ⟨r.handled, by have := r.depth; omega, by have := r.units; omega⟩

theorem lookup_of_mem {x : Str} {v : V} : ∀ {m : List (Str × V)}, (m.map (·.1)).Nodup → (x, v) ∈ m → m.lookup x = some v
  | [], _, hv => nomatch hv
  | p :: m, hn, hv => by
    rw [List.map_cons] at hn
    obtain ⟨n1, n2⟩ := List.nodup_cons.mp hn
    rcases List.mem_cons.mp hv with rfl | hv
    · simp
    · have : x ≠ p.1 := fun e => n1 (List.mem_map.mpr ⟨_, hv, e⟩)
      rw [List.lookup_cons, beq_false_of_ne this]
      exact lookup_of_mem n2 hv
@[reducible] noncomputable def thenF (R : Shared → Prop) (Q : F → Shared → Prop) : F → Shared → Prop
  | .next, s => R s
  | f, s => Q f s

/-- a name's new value in a frame -/
inductive SetL (x : Str) (v : V) : List (Str × V) → List (Str × V) → Prop
  | head {o r} : SetL x v ((x, o) :: r) ((x, v) :: r)
  | tail {p r r'} : SetL x v r r' → SetL x v (p :: r) (p :: r')
theorem SetL.keys {x : Str} {v : V} {m m' : List (Str × V)} (u : SetL x v m m') : m'.map (·.1) = m.map (·.1) := by
  induction u with
  | head => rfl
  | tail _ ih => rw [List.map_cons, List.map_cons, ih]
theorem SetL.mem {x : Str} {v : V} {m m' : List (Str × V)} (u : SetL x v m m') : x ∈ m.map (·.1) := by
  induction u with
  | head => exact .head _
  | tail _ ih => exact .tail _ ih
theorem SetL.look {x : Str} {v : V} {m m' : List (Str × V)} (u : SetL x v m m') (hn : (m.map (·.1)).Nodup) (y : Str) : m'.lookup y = if y = x then some v else m.lookup y := by
  induction u with
  | head =>
    rw [List.lookup_cons, List.lookup_cons]
    by_cases h : y = x
    · subst h; simp
    · rw [if_neg h, beq_false_of_ne h]
  | @tail p r r' u ih =>
    rw [List.map_cons] at hn
    obtain ⟨n1, n2⟩ := List.nodup_cons.mp hn
    rw [List.lookup_cons, List.lookup_cons, ih n2]
    by_cases h : y = p.1
    · subst h
      have : p.1 ≠ x := fun e => n1 (e ▸ u.mem)
      simp [this]
    · rw [beq_false_of_ne h]
theorem look_new {x : Str} {v : V} {m : List (Str × V)} (hn : x ∉ m.map (·.1)) (y : Str) : (m ++ [(x, v)]).lookup y = if y = x then some v else m.lookup y := by
  induction m with
  | nil =>
    rw [List.nil_append, List.lookup_cons]
    by_cases h : y = x
    · subst h; simp
    · rw [if_neg h, beq_false_of_ne h]
  | cons p r ih =>
    rw [List.map_cons] at hn
    have n1 : x ≠ p.1 := fun e => hn (e ▸ .head _)
    rw [List.cons_append, List.lookup_cons, List.lookup_cons, ih fun q => hn (.tail _ q)]
    by_cases h : y = p.1
    · subst h
      simp [Ne.symm n1]
    · rw [beq_false_of_ne h]

section
variable {c : Cx} {A : Around} {s : Shared} {env : Env} {H H' : List (Addr × O)} {sc : Scope} {L g bb : Addr} {cl : List (Str × Addr)} {qn : Str} {fu : Option Addr} {cd : Value} {fr : Option Addr}

theorem wpV.mono {t : Sem Value} {Q Q' : V → Shared → Prop} (h : wpV c A t Q s) (k : ∀ v s, Q v s → Q' v s) : wpV c A t Q' s :=
  wpAny_mono h (fun _ s' ⟨v, r, q⟩ => ⟨v, r, k v s' q⟩) fun _ _ x => x
theorem wpS.mono {t : Sem Flow} {Q Q' : F → Shared → Prop} (h : wpS c A t Q s) (k : ∀ v s, Q v s → Q' v s) : wpS c A t Q' s :=
  wpAny_mono h (fun _ s' ⟨v, r, q⟩ => ⟨v, r, k v s' q⟩) fun _ _ x => x

theorem r_nil {Q : F → Shared → Prop} (h : Q .next s) : wpS c A (execs [] env) Q s := wpAny_execs_nil ⟨.next, rfl, h⟩
theorem r_cons {st : Stmt} {rest : List Stmt} {Q : F → Shared → Prop} (h : wpS c A (exec st env) (thenF (fun s' => wpS c A (execs rest env) Q s') Q) s) : wpS c A (execs (st :: rest) env) Q s := by
  refine wpAny_execs_cons (wpAny_mono h (fun f s' h' => ?_) fun _ _ x => x)
  obtain ⟨g, r, q⟩ := h'
  cases g with
  | next => cases r; exact q
  | brk => cases r; exact ⟨.brk, rfl, q⟩
  | cont => cases r; exact ⟨.cont, rfl, q⟩
  | ret v => obtain ⟨x, rfl, rx⟩ := r; exact ⟨.ret v, ⟨x, rfl, rx⟩, q⟩

-- expressions: constants and names
theorem e_int {i : Int} {k : Nat} {pos : Pos} {Q : V → Shared → Prop} (S : St c H s) (h : ∀ s, St c H s → Q (.int i) s) : wpV c A (eval (.Constant (.int i) k pos) env) Q s :=
  wpAny_Constant_int ⟨.int i, ⟨_, rfl⟩, h _ (S.toks _)⟩
theorem e_bool {b : Bool} {k : Nat} {pos : Pos} {Q : V → Shared → Prop} (h : Q (.bool b) s) : wpV c A (eval (.Constant (.bool b) k pos) env) Q s :=
  wpAny_Constant_bool ⟨.bool b, rfl, h⟩
theorem e_none {k : Nat} {pos : Pos} {Q : V → Shared → Prop} (h : Q .none s) : wpV c A (eval (.Constant .none k pos) env) Q s :=
  wpAny_Constant_none ⟨.none, rfl, h⟩
theorem e_str {x : Str} {k : Nat} {pos : Pos} {Q : V → Shared → Prop} (S : St c H s) (h : ∀ s, St c H s → Q (.str x.cps.toList) s) : wpV c A (eval (.Constant (.str x) k pos) env) Q s :=
  wpAny_Constant_str ⟨.str x.cps.toList, ⟨_, rfl⟩, h _ (S.toks _)⟩
theorem ns_look {h : Heap} {L : Addr} {m : List (Str × V)} (hh : Holds h L (.ns m)) {x : Str} {v : V} (hv : (x, v) ∈ m) : ∃ f y, h.Ns L f ∧ f x = some y ∧ VR v y := by
  obtain ⟨co, g, hn, es, ep, hd', hs, hf⟩ := hh
  obtain ⟨y, q, r⟩ := hf x v hv
  exact ⟨fun x => nsFind es x, y, ⟨co, es, ep, g, hd', hs, fun _ => rfl⟩, q, r⟩
theorem l_local {x : Str} {m : List (Str × V)} {v : V} {Q : V → Shared → Prop} (S : St c H s) (hx : sc.names.lookup x = some .local) (hm : (L, O.ns m) ∈ H) (hv : (x, v) ∈ m)
    (hk : sc.kind = .function) (h : Q v s) : wpV c A (loadName (Env.mk sc L g cl qn fu cd fr bb) x) Q s := by
  obtain ⟨f, y, n, e, r⟩ := ns_look (S.st.own _ hm) hv
  exact wpAny_loadName_local hk hx n e ⟨v, r, h⟩
theorem e_name {x : Str} {pos : Pos} {Q : V → Shared → Prop} (h : wpV c A (loadName env x) Q s) (hd : (x == ("__debug__" : Str)) = false := by decide +kernel) : wpV c A (eval (.Name x pos) env) Q s :=
  wpAny_Name h hd
theorem cell_at {h : Heap} {a : Addr} {v : V} (hh : Holds h a (.cell (some v))) : ∃ y, h.IsCell a (some y) ∧ VR v y := by
  obtain ⟨co, g, x, hd, r⟩ := hh
  cases x with
  | none => exact r.elim
  | some y => exact ⟨y, ⟨co, g, hd⟩, r⟩
theorem l_cell {x : Str} {a : Addr} {v : V} {Q : V → Shared → Prop} (S : St c H s) (hx : sc.names.lookup x = some .cell) (hc : cl.lookup x = some a) (hm : (a, O.cell (some v)) ∈ H)
    (hk : sc.kind = .function) (h : Q v s) : wpV c A (loadName (Env.mk sc L g cl qn fu cd fr bb) x) Q s := by
  obtain ⟨y, n, r⟩ := cell_at (S.st.own _ hm)
  exact wpAny_loadName_cell hk hx hc n ⟨v, r, h⟩
theorem l_free {x : Str} {a : Addr} {v : V} {Q : V → Shared → Prop} (S : St c H s) (hx : sc.names.lookup x = some .free) (hc : cl.lookup x = some a) (hm : (a, O.cell (some v)) ∈ H)
    (hk : sc.kind = .function) (h : Q v s) (hd : (x == ("__classdict__" : Str)) = false := by decide +kernel) : wpV c A (loadName (Env.mk sc L g cl qn fu cd fr bb) x) Q s := by
  obtain ⟨y, n, r⟩ := cell_at (S.st.own _ hm)
  exact wpAny_loadName_free hk hx hc n ⟨v, r, h⟩ hd
theorem l_glob {x : Str} {v : V} {Q : V → Shared → Prop} (G : Good c) (S : St c H s) (hx : sc.names.lookup x = some .globalImplicit) (hv : (x, v) ∈ globTab)
    (hk : sc.kind = .function) (hg : g = mainGlobals) (h : Q v s) : wpV c A (loadName (Env.mk sc L g cl qn fu cd fr bb) x) Q s := by
  obtain ⟨mg, mb, n1, n2, q1, q2⟩ := G.glob
  obtain ⟨y, e, r⟩ := q1 x v hv
  exact PySem.W.ks_loadName_global hk hx (Calls.loadGlobal_global (by show s.heap.Ns g mg; rw [hg]; exact S.st.ns n1 (by decide)) e ⟨v, r, h⟩)
theorem l_bi {x : Str} {v : V} {Q : V → Shared → Prop} (G : Good c) (S : St c H s) (hx : sc.names.lookup x = some .globalImplicit) (hv : (x, v) ∈ biTab)
    (hk : sc.kind = .function) (hg : g = mainGlobals) (hb : bb = builtinsNs) (h : Q v s) : wpV c A (loadName (Env.mk sc L g cl qn fu cd fr bb) x) Q s := by
  obtain ⟨mg, mb, n1, n2, q1, q2⟩ := G.glob
  obtain ⟨e0, y, e, r⟩ := q2 x v hv
  exact PySem.W.ks_loadName_global hk hx (Calls.loadGlobal_builtin (by show s.heap.Ns g mg; rw [hg]; exact S.st.ns n1 (by decide)) e0 (by show s.heap.Ns bb mb; rw [hb]; exact S.st.ns n2 (by decide)) e ⟨v, r, h⟩)

-- stores
theorem ns_set {h' : Heap} {L : Addr} {m m' : List (Str × V)} {x : Str} {v : V} {y : Value} {f : Str → Option Value} (r : VR v y) (hn : (m'.map (·.1)).Nodup) (look : ∀ z w, (z, w) ∈ m' → (z = x ∧ w = v) ∨ (z ≠ x ∧ (z, w) ∈ m))
    (hf : ∀ z w, (z, w) ∈ m → ∃ y, f z = some y ∧ VR w y) (n : h'.Ns L (fun z => if z = x then some y else f z)) : Holds h' L (.ns m') := by
  obtain ⟨o, es, ep, g, hd, hs, hm⟩ := n
  refine ⟨o, g, hn, es, ep, hd, hs, fun z w hz => ?_⟩
  rw [hm z]
  dsimp only
  rcases look z w hz with ⟨rfl, rfl⟩ | ⟨q, hz⟩
  · rw [if_pos rfl]; exact ⟨y, rfl, r⟩
  · rw [if_neg q]; exact hf z w hz
theorem ns_of {h : Heap} {L : Addr} {m : List (Str × V)} (hh : Holds h L (.ns m)) : (m.map (·.1)).Nodup ∧ ∃ f, h.Ns L f ∧ ∀ z w, (z, w) ∈ m → ∃ y, f z = some y ∧ VR w y := by
  obtain ⟨co, g, hn, es, ep, hd', hs, hf⟩ := hh
  exact ⟨hn, fun x => nsFind es x, ⟨co, es, ep, g, hd', hs, fun _ => rfl⟩, hf⟩
theorem mem_of_look {z : Str} {w : V} : ∀ {m : List (Str × V)}, m.lookup z = some w → (z, w) ∈ m
  | [], e => by simp at e
  | p :: m, e => by
    rw [List.lookup_cons] at e
    by_cases q : (z == p.1) = true
    · rw [q] at e
      obtain ⟨a, b⟩ := p
      have : z = a := by simpa using q
      cases e
      subst this
      exact .head _
    · rw [Bool.not_eq_true] at q
      rw [q] at e
      exact .tail _ (mem_of_look e)
theorem look_cases {x : Str} {v : V} {m m' : List (Str × V)} (hn : (m'.map (·.1)).Nodup) (lk : ∀ z, m'.lookup z = if z = x then some v else m.lookup z) (z : Str) (w : V) (h : (z, w) ∈ m') : (z = x ∧ w = v) ∨ (z ≠ x ∧ (z, w) ∈ m) := by
  have e := lookup_of_mem hn h
  rw [lk z] at e
  by_cases q : z = x
  · rw [if_pos q] at e; exact .inl ⟨q, (Option.some.inj e).symm⟩
  · rw [if_neg q] at e; exact .inr ⟨q, mem_of_look e⟩
theorem sn_local {x : Str} {m m' : List (Str × V)} {v : V} {y : Value} {Q : Shared → Prop} (G : Good c) (S : St c H s) (r : VR v y) (hx : sc.names.lookup x = some .local) (u : UpdH L (O.ns m) (O.ns m') H H')
    (hs : SetL x v m m' ∨ (x ∉ m.map (·.1) ∧ m' = m ++ [(x, v)])) (hk : sc.kind = .function) (h : ∀ s, St c H' s → Q s) : wpU c A (storeName (Env.mk sc L g cl qn fu cd fr bb) x y) Q s := by
  obtain ⟨hn, f, n, hf⟩ := ns_of (S.st.own _ u.mem)
  have hn' : (m'.map (·.1)).Nodup := by
    rcases hs with q | ⟨q, rfl⟩
    · rw [q.keys]; exact hn
    · rw [List.map_append, List.map_cons, List.map_nil]
      refine List.nodup_append.mpr ⟨hn, by simp, ?_⟩
      intro a ha b hb e
      rw [List.mem_singleton] at hb
      subst hb e
      exact q ha
  have lk : ∀ z, m'.lookup z = if z = x then some v else m.lookup z := by
    rcases hs with q | ⟨q, rfl⟩
    · exact q.look hn
    · exact look_new q
  exact wpAny_storeName_local hx n (fun h' n' sb => h _ (S.upd G u sb.extBut (ns_set (m := m) r hn' (look_cases hn' lk) hf n') _ (fun _ _ e => nomatch e))) (by show ((sc.kind == .class || (sc.kind == .module && L != g)) = false); rw [hk]; rfl)
/-- a frame's names may be forgotten -/
theorem St.forget {m m' : List (Str × V)} (G : Good c) (S : St c H s) (u : UpdH L (O.ns m) (O.ns m') H H') (hs : List.Sublist m' m) : St c H' s := by
  obtain ⟨co, g, hn, es, ep, hd', hk, hf⟩ := S.st.own _ u.mem
  have := S.upd G u (fun _ _ _ e => e) (h' := s.heap) ⟨co, g, (hs.map _).nodup hn, es, ep, hd', hk, fun z w hz => hf z w (hs.subset hz)⟩ s.toks (fun _ _ e => nomatch e)
  exact this
theorem sn_cell {x : Str} {a : Addr} {v : V} {v₀ : Option V} {y : Value} {Q : Shared → Prop} (G : Good c) (S : St c H s) (r : VR v y) (hx : sc.names.lookup x = some .cell) (hc : cl.lookup x = some a)
    (u : UpdH a (O.cell v₀) (O.cell (some v)) H H') (hk : sc.kind = .function) (h : ∀ s, St c H' s → Q s) : wpU c A (storeName (Env.mk sc L g cl qn fu cd fr bb) x y) Q s := by
  obtain ⟨co, g, z, hd, _⟩ := S.st.own _ u.mem
  refine wpAny_storeName_cell hk hx hc ⟨co, g, hd⟩ fun h' ic sb => h _ (S.upd G u sb.extBut ?_ _ (fun _ _ e => nomatch e))
  obtain ⟨o, g', d'⟩ := ic
  exact ⟨o, g', some y, d', r⟩

-- expressions: operators
noncomputable def opV (c : Cx) (A : Around) (op : Operator) (a b : V) (Q : V → Shared → Prop) (s : Shared) : Prop := ∀ x y, VR a x → VR b y → wpV c A (binaryOp op x y) Q s
noncomputable def iopV (c : Cx) (A : Around) (op : Operator) (a b : V) (Q : V → Shared → Prop) (s : Shared) : Prop := ∀ x y, VR a x → VR b y → wpV c A (inplaceOp op x y) Q s
noncomputable def uopV (c : Cx) (A : Around) (op : UnaryOp) (a : V) (Q : V → Shared → Prop) (s : Shared) : Prop := ∀ x, VR a x → wpV c A (unaryOp op x) Q s
noncomputable def cmpV (c : Cx) (A : Around) (op : CmpOp) (a b : V) (Q : V → Shared → Prop) (s : Shared) : Prop := ∀ x y, VR a x → VR b y → wpV c A (compareOp op x y) Q s
noncomputable def truV (c : Cx) (A : Around) (a : V) (Q : Bool → Shared → Prop) (s : Shared) : Prop := ∀ x, VR a x → wpB c A (truthy x) Q s

theorem e_BinOp {l r : Expr} {op : Operator} {pos : Pos} {Q : V → Shared → Prop} (h : wpV c A (eval l env) (fun a s => wpV c A (eval r env) (fun b s => opV c A op a b Q s) s) s) : wpV c A (eval (.BinOp l op r pos) env) Q s :=
  wpAny_BinOp (wpAny_mono h (fun x _ ⟨_, ra, ha⟩ => wpAny_mono ha (fun y _ ⟨_, rb, hb⟩ => hb x y ra rb) fun _ _ e => e) fun _ _ e => e)
theorem e_Unary {x : Expr} {op : UnaryOp} {pos : Pos} {Q : V → Shared → Prop} (h : wpV c A (eval x env) (fun a s => uopV c A op a Q s) s) : wpV c A (eval (.UnaryOp op x pos) env) Q s :=
  wpAny_UnaryOp (wpAny_mono h (fun x _ ⟨_, ra, ha⟩ => ha x ra) fun _ _ e => e)
theorem e_Cmp {l r : Expr} {op : CmpOp} {pos : Pos} {Q : V → Shared → Prop} (hm : behindInMarks op r = false) (h : wpV c A (eval l env) (fun a s => wpV c A (eval r env) (fun b s => cmpV c A op a b Q s) s) s) : wpV c A (eval (.Compare l [op] [r] pos) env) Q s :=
  wpAny_Compare1 (wpAny_mono h (fun x _ ⟨_, ra, ha⟩ => wpAny_mono ha (fun y _ ⟨_, rb, hb⟩ => hb x y ra rb) fun _ _ e => e) fun _ _ e => e) hm
theorem b_Cmp {l r : Expr} {op : CmpOp} {pos : Pos} {t : Sem Value} {Q : Bool → Shared → Prop} (hm : behindInMarks op r = false) (h : wpV c A (eval l env) (fun a s => wpV c A (eval r env) (fun b s => cmpV c A op a b (fun v s => truV c A v Q s) s) s) s) :
    wpB c A (isTrue (.Compare l [op] [r] pos) env t) Q s :=
  wpAny_isTrue_Compare1 (wpAny_mono h (fun x _ ⟨_, ra, ha⟩ => wpAny_mono ha (fun y _ ⟨_, rb, hb⟩ => wpAny_mono (hb x y ra rb) (fun z _ ⟨_, rz, hz⟩ => hz z rz) fun _ _ e => e) fun _ _ e => e) fun _ _ e => e) hm
theorem b_Not {x : Expr} {pos : Pos} {t : Sem Value} {Q : Bool → Shared → Prop} (h : wpB c A (isTrue x env (eval x env)) (fun b s => Q (!b) s) s) : wpB c A (isTrue (.UnaryOp .Not x pos) env t) Q s := wpAny_isTrue_Not h
theorem b_And {x y : Expr} {pos : Pos} {t : Sem Value} {Q : Bool → Shared → Prop} (h : wpB c A (isTrue x env (eval x env)) (fun b s => (b = true → wpB c A (isTrue y env (eval y env)) Q s) ∧ (b = false → Q false s)) s) :
    wpB c A (isTrue (.BoolOp .And [x, y] pos) env t) Q s := by
  refine wpAny_isTrue_BoolOp (wpAny_allTrue_And_cons (wpAny_mono h (fun b s₁ h₁ => ?_) fun _ _ e => e))
  cases b with
  | false => exact h₁.2 rfl
  | true =>
    refine wpAny_allTrue_And_cons (wpAny_mono (h₁.1 rfl) (fun b s₂ h₂ => ?_) fun _ _ e => e)
    cases b with
    | false => exact h₂
    | true => exact wpAny_allTrue_And_nil h₂
theorem b_val {e : Expr} {t : Sem Value} {Q : Bool → Shared → Prop} (he : isTrue e env t = (do let v ← t; standAt e.pos; holding [v] (truthy v))) (h : wpV c A t (fun v s => truV c A v Q s) s) : wpB c A (isTrue e env t) Q s :=
  wpAny_isTrue_value (wpAny_mono h (fun x _ ⟨_, rx, hx⟩ => hx x rx) fun _ _ e => e) he
theorem e_IfExp {t b o : Expr} {pos : Pos} {Q : V → Shared → Prop} (h : wpB c A (isTrue t env (eval t env)) (fun x s => (x = true → wpV c A (eval b env) Q s) ∧ (x = false → wpV c A (eval o env) Q s)) s) : wpV c A (eval (.IfExp t b o pos) env) Q s := by
  refine wpAny_IfExp (wpAny_mono h (fun x s₁ h₁ => ?_) fun _ _ e => e)
  cases x with
  | true => exact h₁.1 rfl
  | false => exact h₁.2 rfl
theorem e_Or {x y : Expr} {pos : Pos} {Q : V → Shared → Prop} (h : wpV c A (eval x env) (fun v s => truV c A v (fun b s => (b = true → Q v s) ∧ (b = false → wpV c A (eval y env) Q s)) s) s) : wpV c A (eval (.BoolOp .Or [x, y] pos) env) Q s := by
  refine wpAny_Or2 (wpAny_mono h (fun x s₁ ⟨v, r, h₁⟩ => wpAny_mono (h₁ x r) (fun b s₂ h₂ => ?_) fun _ _ e => e) fun _ _ e => e)
  cases b with
  | true => exact ⟨v, r, h₂.1 rfl⟩
  | false => exact h₂.2 rfl

-- statements
theorem s_If {t : Expr} {b o : List Stmt} {pos : Pos} {Q : F → Shared → Prop} (h : wpB c A (isTrue t env (eval t env)) (fun x s => (x = true → wpS c A (execs b env) Q s) ∧ (x = false → wpS c A (execs o env) Q s)) s) : wpS c A (exec (.If t b o pos) env) Q s := by
  refine wpAny_If (wpAny_mono h (fun x s₁ h₁ => ?_) fun _ _ e => e)
  cases x with
  | true => exact h₁.1 rfl
  | false => exact h₁.2 rfl
theorem s_Return {e : Expr} {pos : Pos} {Q : F → Shared → Prop} (h : wpV c A (eval e env) (fun v s => Q (.ret v) s) s) : wpS c A (exec (.Return (some e) pos) env) Q s :=
  wpAny_Return_some (wpAny_mono h (fun x _ ⟨v, r, q⟩ => ⟨.ret v, ⟨x, rfl, r⟩, q⟩) fun _ _ e => e)
theorem s_Return0 {pos : Pos} {Q : F → Shared → Prop} (h : Q (.ret .none) s) : wpS c A (exec (.Return none pos) env) Q s := wpAny_Return_none ⟨.ret .none, ⟨_, rfl, rfl⟩, h⟩
theorem s_Continue {pos : Pos} {Q : F → Shared → Prop} (h : Q .cont s) : wpS c A (exec (.Continue pos) env) Q s := wpAny_Continue ⟨.cont, rfl, h⟩
theorem s_Assign {x : Str} {p' pos : Pos} {e : Expr} {Q : F → Shared → Prop} (hs : swapsWith e (some (.Name x p')) pos.line env = pure false) (h : wpV c A (eval e env) (fun v s => ∀ y, VR v y → wpU c A (storeName env x y) (fun s => Q .next s) s) s) :
    wpS c A (exec (.Assign [.Name x p'] e pos) env) Q s :=
  wpAny_Assign_Name (wpAny_mono h (fun x _ ⟨v, r, q⟩ => wpAny_mono (q x r) (fun _ _ h => ⟨.next, rfl, h⟩) fun _ _ e => e) fun _ _ e => e) hs
theorem s_Aug {x : Str} {p' pos : Pos} {op : Operator} {e : Expr} {Q : F → Shared → Prop} (h : wpV c A (loadName env x) (fun a s => wpV c A (eval e env) (fun b s => iopV c A op a b (fun v s => ∀ y, VR v y → wpU c A (storeName env x y) (fun s => Q .next s) s) s) s) s) :
    wpS c A (exec (.AugAssign (.Name x p') op e pos) env) Q s :=
  wpAny_AugAssign_Name (wpAny_mono h (fun x _ ⟨_, ra, ha⟩ => wpAny_mono ha (fun y _ ⟨_, rb, hb⟩ => wpAny_mono (hb x y ra rb) (fun z _ ⟨v, r, q⟩ => wpAny_mono (q z r) (fun _ _ h => ⟨.next, rfl, h⟩) fun _ _ e => e) fun _ _ e => e) fun _ _ e => e) fun _ _ e => e)
theorem s_Expr {e : Expr} {pos : Pos} {Q : F → Shared → Prop} (hs : swapsWith e none pos.line env = pure false) (hi : interactive env = false) (h : wpV c A (eval e env) (fun _ s => Q .next s) s) : wpS c A (exec (.Expr e pos) env) Q s :=
  wpAny_Expr_any (wpAny_mono h (fun _ _ ⟨_, _, q⟩ => ⟨.next, rfl, q⟩) fun _ _ e => e) hi hs

-- lists of expressions
theorem l_nil {Q : List V → Shared → Prop} (h : Q [] s) : wpL c A (spliced []) Q s := Calls.spliced_nil ⟨[], trivial, h⟩
theorem l_cons {t : Sem Value} {rest : List (Bool × Sem Value)} {Q : List V → Shared → Prop} (h : wpV c A t (fun v s => wpL c A (spliced rest) (fun vs s => Q (v :: vs) s) s) s) : wpL c A (spliced ((false, t) :: rest)) Q s :=
  Calls.spliced_cons (wpAny_mono h (fun x _ ⟨v, r, q⟩ => wpAny_mono q (fun xs _ ⟨vs, rs, q⟩ => ⟨v :: vs, ⟨r, rs⟩, q⟩) fun _ _ e => e) fun _ _ e => e)
end
end Mine
end

section
open PySem PySem.W PySem.Calls PyProof.Rows
set_option Elab.async false
set_option maxRecDepth 100000
set_option linter.unusedVariables false
namespace Mine
section
variable {c : Cx} {A : Around} {s : Shared} {env : Env} {H H' : List (Addr × O)} {a b : Int} {x y : List Nat} {Q : V → Shared → Prop}

theorem o_add (S : St c H s) (h : ∀ s, St c H s → Q (.int (a + b)) s) : opV c A .Add (.int a) (.int b) Q s := by
  rintro _ _ ⟨t, rfl⟩ ⟨u, rfl⟩; unfold wpV; (with_reducible refine add_int ?_); exact ⟨.int _, ⟨_, rfl⟩, h _ (S.toks _)⟩
theorem o_sub (S : St c H s) (h : ∀ s, St c H s → Q (.int (a - b)) s) : opV c A .Sub (.int a) (.int b) Q s := by
  rintro _ _ ⟨t, rfl⟩ ⟨u, rfl⟩; unfold wpV; (with_reducible refine sub_int ?_); exact ⟨.int _, ⟨_, rfl⟩, h _ (S.toks _)⟩
theorem o_mul (S : St c H s) (hb : a.natAbs < 2 ^ 64 ∨ b.natAbs < 2 ^ 64) (h : ∀ s, St c H s → Q (.int (a * b)) s) : opV c A .Mult (.int a) (.int b) Q s := by
  rintro _ _ ⟨t, rfl⟩ ⟨u, rfl⟩
  unfold wpV
  with_reducible refine mul_int ?_ ?_
  · exact ⟨.int _, ⟨_, rfl⟩, h _ (S.toks _)⟩
  · exact hb.elim (fun q => .of_left (intBits_le q)) fun q => .of_right (intBits_le q)
theorem o_div (S : St c H s) (h0 : b ≠ 0) (hb : b.natAbs < 2 ^ 30) (h : ∀ s, St c H s → Q (.int (a.fdiv b)) s) : opV c A .FloorDiv (.int a) (.int b) Q s := by
  rintro _ _ ⟨t, rfl⟩ ⟨u, rfl⟩
  unfold wpV
  with_reducible refine floordiv_int h0 ?_ ?_
  · exact ⟨.int _, ⟨_, rfl⟩, h _ (S.toks _)⟩
  · exact .inl (PyProof.noPylong_small hb)
theorem o_mod (S : St c H s) (h0 : b ≠ 0) (h : ∀ s, St c H s → Q (.int (a.fmod b)) s) : opV c A .Mod (.int a) (.int b) Q s := by
  rintro _ _ ⟨t, rfl⟩ ⟨u, rfl⟩
  unfold wpV
  with_reducible refine mod_int' h0 ?_
  exact ⟨.int _, ⟨_, rfl⟩, h _ (S.toks _)⟩
theorem o_pow (S : St c H s) (h0 : 0 ≤ b) (hb : b ≤ 1000000) (ha : a.natAbs < 2 ^ 64) (h : ∀ s, St c H s → Q (.int (a ^ b.toNat)) s) : opV c A .Pow (.int a) (.int b) Q s := by
  rintro _ _ ⟨t, rfl⟩ ⟨u, rfl⟩
  unfold wpV
  with_reducible refine pow_int_small h0 hb ha ?_
  exact ⟨.int _, ⟨_, rfl⟩, h _ (S.toks _)⟩
theorem o_shl (S : St c H s) (h0 : 0 ≤ b) (hb : b ≤ 1000000) (ha : a.natAbs < 2 ^ 64) (h : ∀ s, St c H s → Q (.int (a * 2 ^ b.toNat)) s) : opV c A .LShift (.int a) (.int b) Q s := by
  rintro _ _ ⟨t, rfl⟩ ⟨u, rfl⟩
  unfold wpV
  with_reducible refine lshift_int_small h0 hb ha ?_
  exact ⟨.int _, ⟨_, rfl⟩, h _ (S.toks _)⟩
theorem o_shr (S : St c H s) (h0 : 0 ≤ b) (h : ∀ s, St c H s → Q (.int (a.fdiv (2 ^ b.toNat))) s) : opV c A .RShift (.int a) (.int b) Q s := by
  rintro _ _ ⟨t, rfl⟩ ⟨u, rfl⟩
  unfold wpV
  with_reducible refine rshift_int h0 ?_
  exact ⟨.int _, ⟨_, rfl⟩, h _ (S.toks _)⟩
theorem o_xor (S : St c H s) (h : ∀ s, St c H s → Q (.int (Builtin.bitXor a b)) s) : opV c A .BitXor (.int a) (.int b) Q s := by
  rintro _ _ ⟨t, rfl⟩ ⟨u, rfl⟩
  unfold wpV
  with_reducible refine xor_int ?_
  exact ⟨.int _, ⟨_, rfl⟩, h _ (S.toks _)⟩
theorem i_add (S : St c H s) (h : ∀ s, St c H s → Q (.int (a + b)) s) : iopV c A .Add (.int a) (.int b) Q s := by
  rintro _ _ ⟨t, rfl⟩ ⟨u, rfl⟩; unfold wpV; (with_reducible refine iadd_int ?_); exact ⟨.int _, ⟨_, rfl⟩, h _ (S.toks _)⟩
theorem i_sub (S : St c H s) (h : ∀ s, St c H s → Q (.int (a - b)) s) : iopV c A .Sub (.int a) (.int b) Q s := by
  rintro _ _ ⟨t, rfl⟩ ⟨u, rfl⟩; unfold wpV; (with_reducible refine isub_int ?_); exact ⟨.int _, ⟨_, rfl⟩, h _ (S.toks _)⟩
theorem u_neg (S : St c H s) (h : ∀ s, St c H s → Q (.int (-a)) s) : uopV c A .USub (.int a) Q s := by
  rintro _ ⟨t, rfl⟩; unfold wpV; (with_reducible refine PySem.P.neg_int ?_); exact ⟨.int _, ⟨_, rfl⟩, h _ (S.toks _)⟩
theorem u_inv (S : St c H s) (h : ∀ s, St c H s → Q (.int (-a - 1)) s) : uopV c A .Invert (.int a) Q s := by
  rintro _ ⟨t, rfl⟩; unfold wpV; (with_reducible refine invert_int ?_); exact ⟨.int _, ⟨_, rfl⟩, h _ (S.toks _)⟩

theorem str_add_eq (x y : List Nat) : (⟨x.toArray⟩ : Str) ++ (⟨y.toArray⟩ : Str) = ⟨(x ++ y).toArray⟩ := by
  show (⟨x.toArray ++ y.toArray⟩ : Str) = _
  simp
theorem o_sadd (S : St c H s) (hl : x.length + y.length ≤ 1000000) (h : ∀ s, St c H s → Q (.str (x ++ y)) s) : opV c A .Add (.str x) (.str y) Q s := by
  rintro _ _ ⟨t, rfl⟩ ⟨u, rfl⟩
  unfold wpV
  with_reducible refine PyProof.Rows.add_str ?_ ?_
  · exact fun t' tk => ⟨.str _, ⟨t', by rw [str_add_eq]⟩, h _ (S.toks _)⟩
  · exact (by show x.toArray.size + y.toArray.size ≤ sizeLine; rw [sizeLine_eq]; simp; omega)
theorem i_sadd (S : St c H s) (hl : x.length + y.length ≤ 1000000) (h : ∀ s, St c H s → Q (.str (x ++ y)) s) : iopV c A .Add (.str x) (.str y) Q s := by
  rintro _ _ ⟨t, rfl⟩ ⟨u, rfl⟩
  unfold wpV
  with_reducible refine PyProof.Rows.iadd_str ?_ ?_
  · exact fun t' tk => ⟨.str _, ⟨t', by rw [str_add_eq]⟩, h _ (S.toks _)⟩
  · exact (by show x.toArray.size + y.toArray.size ≤ sizeLine; rw [sizeLine_eq]; simp; omega)

-- comparisons
theorem c_eq (h : Q (.bool (decide (a = b))) s) : cmpV c A .Eq (.int a) (.int b) Q s := by
  rintro _ _ ⟨t, rfl⟩ ⟨u, rfl⟩; unfold wpV; (with_reducible refine PyProof.Rows.eq_int ?_); exact ⟨.bool _, by rw [show (a == b) = decide (a = b) from rfl]; rfl, h⟩
theorem c_ne (h : Q (.bool (decide (a ≠ b))) s) : cmpV c A .NotEq (.int a) (.int b) Q s := by
  rintro _ _ ⟨t, rfl⟩ ⟨u, rfl⟩; unfold wpV; (with_reducible refine PyProof.Rows.ne_int ?_); exact ⟨.bool _, by rw [show (a != b) = decide (a ≠ b) from by by_cases q : a = b <;> simp [q]]; rfl, h⟩
theorem c_lt (h : Q (.bool (decide (a < b))) s) : cmpV c A .Lt (.int a) (.int b) Q s := by
  rintro _ _ ⟨t, rfl⟩ ⟨u, rfl⟩; unfold wpV; (with_reducible refine PyProof.Rows.lt_int ?_); exact ⟨.bool _, rfl, h⟩
theorem c_gt (h : Q (.bool (decide (b < a))) s) : cmpV c A .Gt (.int a) (.int b) Q s := by
  rintro _ _ ⟨t, rfl⟩ ⟨u, rfl⟩; unfold wpV; (with_reducible refine PyProof.Rows.gt_int ?_); exact ⟨.bool _, rfl, h⟩
theorem c_le (h : Q (.bool (decide (a ≤ b))) s) : cmpV c A .LtE (.int a) (.int b) Q s := by
  rintro _ _ ⟨t, rfl⟩ ⟨u, rfl⟩; unfold wpV; (with_reducible refine PySem.P.le_int ?_); exact ⟨.bool _, rfl, h⟩
theorem c_ge (h : Q (.bool (decide (b ≤ a))) s) : cmpV c A .GtE (.int a) (.int b) Q s := by
  rintro _ _ ⟨t, rfl⟩ ⟨u, rfl⟩; unfold wpV; (with_reducible refine PySem.P.ge_int ?_); exact ⟨.bool _, rfl, h⟩
theorem c_beq {p q : Bool} (h : Q (.bool (p == q)) s) : cmpV c A .Eq (.bool p) (.bool q) Q s := by
  rintro _ _ rfl rfl; unfold wpV; (with_reducible refine PyProof.Rows.eq_bool ?_); exact ⟨.bool _, rfl, h⟩
theorem str_beq (x y : List Nat) : ((⟨x.toArray⟩ : Str) == (⟨y.toArray⟩ : Str)) = decide (x = y) := by
  by_cases q : x = y
  · subst q; simp
  · have : (⟨x.toArray⟩ : Str) ≠ ⟨y.toArray⟩ := fun e => q (by injection e with e; simpa using congrArg Array.toList e)
    simp [this, q]
theorem c_seq (h : Q (.bool (decide (x = y))) s) : cmpV c A .Eq (.str x) (.str y) Q s := by
  rintro _ _ ⟨t, rfl⟩ ⟨u, rfl⟩; unfold wpV; (with_reducible refine PyProof.Rows.eq_str ?_); exact ⟨.bool _, by rw [str_beq]; rfl, h⟩
-- truth
variable {P : Bool → Shared → Prop}
theorem t_bool {p : Bool} (h : P p s) : truV c A (.bool p) P s := by rintro _ rfl; exact wpAny_truthy_bool h
theorem t_int (h : P (decide (a ≠ 0)) s) : truV c A (.int a) P s := by
  rintro _ ⟨t, rfl⟩; unfold wpB; (with_reducible refine PySem.P.truthy_int ?_); exact (by rw [show (a != 0) = decide (a ≠ 0) from by by_cases q : a = 0 <;> simp [q]]; exact h)
end
end Mine
end

section
open PySem PySem.W PySem.Calls PyProof.Rows
set_option Elab.async false
set_option maxRecDepth 100000
set_option linter.unusedVariables false
namespace Mine
section
variable {c : Cx} {A : Around} {s : Shared} {env : Env} {H H' : List (Addr × O)} {Q : V → Shared → Prop}

theorem St.old {a : Addr} {o : O} (S : St c H s) (h : Holds c.s₁.heap a o) (ht : a ∉ tabsL) : Holds s.heap a o := let ⟨co, g, r⟩ := h; ⟨co, S.st.keep _ _ g ht, r⟩
theorem St.has {a : Addr} {o : O} (S : St c H s) (hm : (a, o) ∈ H) : Holds s.heap a o := S.st.own _ hm
theorem list_of {h : Heap} {a : Addr} {xs : List V} (hh : Holds h a (.list xs)) : ∃ its n, h.get? a = some ⟨.type "list", none, .seq its n, #[]⟩ ∧ VRs xs its.toList :=
  let ⟨_, g, its, n, e, r⟩ := hh; ⟨its, n, e ▸ g, r⟩
theorem isList_of {h : Heap} {a : Addr} {xs : List V} (hh : Holds h a (.list xs)) : ∃ its, h.IsList a its ∧ VRs xs its.toList :=
  let ⟨its, n, g, r⟩ := list_of hh; ⟨its, ⟨_, g, rfl, n, rfl⟩, r⟩
theorem VRs.size {vs : List V} {its : Array Value} (h : VRs vs its.toList) : its.size = vs.length := by rw [h.length, Array.length_toList]
theorem VRs.at {vs : List V} {its : Array Value} (h : VRs vs its.toList) {i : Nat} {v : V} (e : vs[i]? = some v) : ∃ x, its[i]? = some x ∧ VR v x := by
  obtain ⟨x, hx, r⟩ := h.get e
  exact ⟨x, by rw [← hx, Array.getElem?_toList], r⟩

-- lists of arguments
theorem a_nil {pos : Pos} {Q : List V → Shared → Prop} (h : Q [] s) : wpL c A (spliced (backTo pos (starEach [] env))) Q s := l_nil h
theorem a_cons {e : Expr} {rest : List Expr} {pos : Pos} {Q : List V → Shared → Prop} (he : starEach (e :: rest) env = (false, eval e env) :: starEach rest env)
    (h : wpV c A (eval e env) (fun v s => wpL c A (spliced (backTo pos (starEach rest env))) (fun vs s => Q (v :: vs) s) s) s) : wpL c A (spliced (backTo pos (starEach (e :: rest) env))) Q s := by
  rw [he]; exact l_cons h

-- displays
noncomputable def newL (c : Cx) (A : Around) (vs : List V) (Q : V → Shared → Prop) (s : Shared) : Prop := ∀ xs, VRs vs xs → wpV c A (newList xs) Q s
noncomputable def newT (c : Cx) (A : Around) (vs : List V) (Q : V → Shared → Prop) (s : Shared) : Prop := ∀ xs, VRs vs xs → wpV c A (newTuple xs) Q s
theorem e_List {es : List Expr} {pos : Pos} (h : wpL c A (spliced (backTo pos (starEach es env))) (fun vs s => newL c A vs Q s) s) : wpV c A (eval (.List es pos) env) Q s := by
  unfold wpV; rw [arm_eval_List]
  exact wpAny_bind (wpAny_standAt (wpAny_bind (wpAny_mono h (fun xs s₁ ⟨vs, r, q⟩ => q xs r) fun _ _ e => e)))
theorem e_Tuple {es : List Expr} {k : Nat} {pos : Pos} (h : wpL c A (spliced (backTo pos (starEach es env))) (fun vs s => newT c A vs Q s) s) : wpV c A (eval (.Tuple es k pos) env) Q s := by
  unfold wpV; rw [arm_eval_Tuple]
  exact wpAny_bind (wpAny_standAt (wpAny_bind (wpAny_mono h (fun xs s₁ ⟨vs, r, q⟩ => q xs r) fun _ _ e => e)))
theorem St.alloc {co : Obj} {o : O} (S : St c H s) (hf : co.isFreed = false) (r : OR o co) (hc : ∀ fd d, o ≠ .clo fd d) (t : Nat) : St c ((s.heap.objs.size, o) :: H) { s with heap := s.heap.push co, toks := t } :=
  S.push (fun _ _ e => Heap.get?_push_of_some _ e) ⟨co, Heap.get?_push_size _ hf, r⟩ t fun fd d e => absurd e (hc fd d)
theorem n_list {vs : List V} (S : St c H s) (hl : vs.length ≤ 1000000) (h : ∀ a s, St c ((a, .list vs) :: H) s → Q (.ref a) s) : newL c A vs Q s := by
  intro xs r
  refine wpAny_newList ⟨.ref _, rfl, h _ _ (S.alloc (o := .list vs) (t := s.toks) rfl ⟨xs.toArray, 0, rfl, by simpa using r⟩ (fun _ _ e => nomatch e))⟩ ?_
  rw [← r.length, sizeLine_eq]; omega
theorem n_tup {vs : List V} (S : St c H s) (hl : vs.length ≤ 1000000) (h : ∀ a s, St c ((a, .tup vs) :: H) s → Q (.ref a) s) : newT c A vs Q s := by
  intro xs r
  refine wpAny_newTuple ⟨.ref _, rfl, h _ _ (S.alloc (o := .tup vs) (t := s.toks) rfl ⟨xs.toArray, 0, rfl, by simpa using r⟩ (fun _ _ e => nomatch e))⟩ ?_
  rw [← r.length, sizeLine_eq]; omega

-- items
noncomputable def subV (c : Cx) (A : Around) (value slice : Expr) (o i : V) (Q : V → Shared → Prop) (s : Shared) : Prop := ∀ x y, VR o x → VR i y → wpV c A (subscriptTail value slice x y) Q s
theorem e_Sub {value slice : Expr} {pos : Pos} (h : wpV c A (eval value env) (fun o s => wpV c A (eval slice env) (fun i s => subV c A value slice o i Q s) s) s) : wpV c A (eval (.Subscript value slice pos) env) Q s :=
  Subscript_ (wpAny_mono h (fun x _ ⟨_, ra, ha⟩ => wpAny_mono ha (fun y _ ⟨_, rb, hb⟩ => hb x y ra rb) fun _ _ e => e) fun _ _ e => e)
theorem sub_list {value slice : Expr} {a : Addr} {k : Int} {xs : List V} {v : V} (hr : Holds s.heap a (.list xs)) (h0 : 0 ≤ k) (h1 : k < 2 ^ 63) (hx : xs[k.toNat]? = some v)
    (hs : ∀ x y, subscripted slice false x y = operate [x, y] (getItem x y)) (h : Q v s) : subV c A value slice (.ref a) (.int k) Q s := by
  rintro _ _ rfl ⟨t, rfl⟩
  obtain ⟨its, il, r⟩ := isList_of hr
  obtain ⟨x, e, rx⟩ := r.at hx
  exact tail_any il.typeIs slot_list_getitem.lookup (wpAny_getItem_list il h0 h1 e ⟨v, rx, h⟩) (hs _ _)
theorem sub_list_neg {value slice : Expr} {a : Addr} {k : Int} {xs : List V} {v : V} (hr : Holds s.heap a (.list xs)) (h0 : k < 0) (h1 : -(xs.length : Int) ≤ k) (h2 : -(2 ^ 63) ≤ k) (hx : xs[(k + xs.length).toNat]? = some v)
    (hs : ∀ x y, subscripted slice false x y = operate [x, y] (getItem x y)) (h : Q v s) : subV c A value slice (.ref a) (.int k) Q s := by
  rintro _ _ rfl ⟨t, rfl⟩
  obtain ⟨its, il, r⟩ := isList_of hr
  obtain ⟨x, e, rx⟩ := r.at hx
  exact tail_any il.typeIs slot_list_getitem.lookup (wpAny_getItem_list_neg il h0 (by rw [r.size]; exact h1) h2 (by rw [r.size]; exact e) ⟨v, rx, h⟩) (hs _ _)
theorem tup_of {h : Heap} {a : Addr} {xs : List V} (hh : Holds h a (.tup xs)) : ∃ its, IsTup h a its ∧ VRs xs its.toList :=
  let ⟨_, g, its, n, e, r⟩ := hh; ⟨its, ⟨_, g, by rw [e], n, by rw [e]⟩, r⟩
theorem sub_tup {value slice : Expr} {a : Addr} {k : Int} {xs : List V} {v : V} (hr : Holds s.heap a (.tup xs)) (h0 : 0 ≤ k) (h1 : k < 2 ^ 63) (hx : xs[k.toNat]? = some v)
    (hs : ∀ x y, subscripted slice false x y = operate [x, y] (getItem x y)) (h : Q v s) : subV c A value slice (.ref a) (.int k) Q s := by
  rintro _ _ rfl ⟨t, rfl⟩
  obtain ⟨its, il, r⟩ := tup_of hr
  obtain ⟨x, e, rx⟩ := r.at hx
  have hj : seqIndex? k its.size = some k.toNat := by
    have hlt : k.toNat < its.size := (Array.getElem?_eq_some_iff.mp e).1
    unfold seqIndex?
    simp [Int.not_lt.mpr h0]
    omega
  exact tail_any il.typeIs slot_tuple_getitem.lookup (PyProof.Rows.getItem_tuple il (by omega) h1 hj e ⟨v, rx, h⟩) (hs _ _)

-- calls
noncomputable def cwV (c : Cx) (A : Around) (pos : Pos) (f : V) (first : List V) (args : List Expr) (env : Env) (Q : V → Shared → Prop) (s : Shared) : Prop :=
  ∀ x xs, VR f x → VRs first xs → wpV c A (callWith pos x xs (backTo pos (starEach args env)) []) Q s
noncomputable def callV (c : Cx) (A : Around) (f : V) (vs : List V) (Q : V → Shared → Prop) (s : Shared) : Prop := ∀ x xs, VR f x → VRs vs xs → wpV c A (call x xs) Q s
theorem e_Call {f : Str} {p pos : Pos} {args : List Expr} (h : wpV c A (eval (.Name f p) env) (fun v s => cwV c A pos v [] args env Q s) s) : wpV c A (eval (.Call (.Name f p) args [] pos) env) Q s := by
  unfold wpV
  rw [arm_eval_Call_Name']
  exact wpAny_bind (wpAny_mono h (fun x s₁ ⟨v, r, q⟩ => q x [] r trivial) fun _ _ e => e)
/-- the arguments, and then what is done with them -/
noncomputable def argV (c : Cx) (A : Around) (pos : Pos) (args : List Expr) (env : Env) (K : List V → Shared → Prop) (s : Shared) : Prop :=
  (backTo pos (starEach args env)).any (·.1) = false ∧ ∀ (f : Value) (R : Args → Shared → Prop), (∀ xs vs s, VRs vs xs → K vs s → R ⟨xs, []⟩ s) → wpAny c.M A (evalArgs f true (backTo pos (starEach args env)) []) R NoE s
theorem g_nil {pos : Pos} {K : List V → Shared → Prop} (h : K [] s) : argV c A pos [] env K s := ⟨rfl, fun f R k => PySem.evalArgs_none (k [] [] s trivial h)⟩
theorem g_cons {e : Expr} {rest : List Expr} {pos : Pos} {K : List V → Shared → Prop} (he : starEach (e :: rest) env = (false, eval e env) :: starEach rest env) (hn : (backTo pos (starEach rest env)).any (·.1) = false)
    (h : wpV c A (eval e env) (fun v s => wpL c A (spliced (backTo pos (starEach rest env))) (fun vs s => K (v :: vs) s) s) s) : argV c A pos (e :: rest) env K s := by
  have eb : backTo pos (starEach (e :: rest) env) = (false, eval e env) :: backTo pos (starEach rest env) := by rw [he]; rfl
  refine ⟨by rw [eb, List.any_cons, hn]; rfl, fun f R k => ?_⟩
  rw [eb]
  exact Calls.evalArgs_plain (wpAny_mono (l_cons (Q := K) h) (fun xs s' ⟨vs, r, q⟩ => k xs vs s' r q) fun _ _ e => e)
theorem w_bi {id : String} {first : List V} {args : List Expr} {pos : Pos} (h : argV c A pos args env (fun vs s => callV c A (.bi id) (first ++ vs) Q s) s) : cwV c A pos (.bi id) first args env Q s := by
  rintro _ xs rfl r
  exact Calls.callWith_builtin h.1 (h.2 _ _ fun ys vs s' rs q => q _ _ rfl (r.append rs))
theorem keeps_type (n : String) (M : Model) (h : Heap) : ∃ k, (k = Keeper.frame ∨ k = Keeper.machine ∨ k = Keeper.boundFrame) ∧ Looks M h (keeperOf (.type n)) k := ⟨.machine, .inr (.inl rfl), Looks.of_pure rfl⟩
theorem w_ty {n : String} {first : List V} {args : List Expr} {pos : Pos} (h : argV c A pos args env (fun vs s => callV c A (.ty n) (first ++ vs) Q s) s) : cwV c A pos (.ty n) first args env Q s := by
  rintro _ xs rfl r
  exact callWith_of (P := fun _ => True) (by rw [h.1]; rfl) (fun h' _ => keeps_type n _ h') (h.2 _ _ fun ys vs s' rs q => ⟨trivial, q _ _ rfl (r.append rs)⟩)
/-- a function of the text, or one that the call has made -/
noncomputable def FnAt (h : Heap) (a : Addr) : Prop := ∃ o fd, h.get? a = some o ∧ o.data = .func fd
theorem w_fn {a : Addr} {first : List V} {args : List Expr} {pos : Pos} (h : argV c A pos args env (fun vs s => FnAt s.heap a ∧ callV c A (.ref a) (first ++ vs) Q s) s) : cwV c A pos (.ref a) first args env Q s := by
  rintro _ xs rfl r
  refine callWith_of (P := fun h => FnAt h a) (by rw [h.1]; rfl) (fun h' ⟨o, fd, g, hd⟩ => ⟨.frame, .inl rfl, ?_⟩) (h.2 _ _ fun ys vs s' rs q => ⟨q.1, q.2 _ _ rfl (r.append rs)⟩)
  refine (Looks.ld (part := none) g).andThen ?_
  rw [hd]
  exact .now
end
end Mine
end

section
open PySem PySem.W PySem.Calls PyProof.Rows
set_option Elab.async false
set_option maxRecDepth 100000
set_option linter.unusedVariables false
namespace Mine

noncomputable def cellNames : List (Str × NameKind) → List Str
  | [] => []
  | (n, k) :: r => if k == .cell then n :: cellNames r else cellNames r
/-- the cells that a new frame makes, newest first -/
noncomputable def zipC : List Str → List Addr → List (Str × Addr) → List (Str × Addr)
  | n :: ns, a :: as, acc => zipC ns as ((n, a) :: acc)
  | _, _, acc => acc
noncomputable def cellsH : List Addr → List (Addr × O) → List (Addr × O)
  | [], H => H
  | a :: as, H => cellsH as ((a, .cell none) :: H)

section
variable {c : Cx} {A : Around} {s : Shared} {H H' : List (Addr × O)}

theorem St.sub (S : St c H s) (h : List.Sublist H' H) : St c H' s := ⟨S.st.drop (fun _ hq => h.subset hq) ((h.map _).nodup S.st.nodup), S.os, S.gens⟩

/-- what the library's rule for a frame's cells leaves, as a list of own objects -/
theorem lay_St : ∀ (names : List (Str × NameKind)) (acc : List (Str × Addr)) (H : List (Addr × O)) (s : Shared), St c H s →
    ∃ as, as.length = (cellNames names).length ∧ St c (cellsH as H) { s with heap := pushCells s.heap names } ∧ cellsFrom s.heap.objs.size names acc = zipC (cellNames names) as acc
  | [], acc, H, s, S => ⟨[], rfl, S, rfl⟩
  | (name, kind) :: r, acc, H, s, S => by
    unfold cellNames cellsFrom pushCells
    by_cases hk : (kind == NameKind.cell) = true
    · obtain ⟨as, e1, S', e2⟩ := lay_St r ((name, s.heap.objs.size) :: acc) _ _ (S.alloc (co := { cls := .type "cell", data := .cell none }) (o := .cell none) (t := s.toks) rfl ⟨none, rfl, trivial⟩ (fun _ _ e => nomatch e))
      rw [if_pos hk, if_pos hk, if_pos hk]
      rw [Heap.size_push] at e2
      exact ⟨s.heap.objs.size :: as, by simp [e1], S', e2⟩
    · rw [if_neg hk, if_neg hk, if_neg hk]
      exact lay_St r acc H s S

/-- the parameters' values go into the new frame -/
noncomputable def bindV (c : Cx) (A : Around) (env : Env) : List (Str × V) → (Shared → Prop) → Shared → Prop
  | [], Q, s => Q s
  | (x, v) :: r, Q, s => ∀ y, VR v y → wpU c A (storeName env x y) (fun s => bindV c A env r Q s) s
noncomputable def VRb : List (Str × V) → List (Str × Value) → Prop
  | [], [] => True
  | (x, v) :: r, (y, z) :: r' => x = y ∧ VR v z ∧ VRb r r'
  | _, _ => False
theorem bind_loop (env : Env) (f : Str × Value → PUnit → Sem (ForInStep PUnit)) (hf : ∀ n v u, f (n, v) u = (do storeName env n v; pure (.yield ⟨⟩))) :
    ∀ (bs : List (Str × V)) (binds : List (Str × Value)) (s : Shared) (Q : Shared → Prop), VRb bs binds → bindV c A env bs Q s → wpAny c.M A (forIn binds ⟨⟩ f) (fun _ s => Q s) NoE s
  | [], [], s, Q, _, h => by rw [List.forIn_nil]; exact wpAny_pure h
  | (x, v) :: r, (y, z) :: r', s, Q, ⟨e, rv, rs⟩, h => by
    subst e
    rw [List.forIn_cons, hf]
    exact wpAny_bind (wpAny_bind (wpAny_mono (h z rv) (fun _ s' h' => wpAny_pure (bind_loop env f hf r r' s' Q rs h')) fun _ _ e => e))
  | [], _ :: _, _, _, h, _ => h.elim
  | _ :: _, [], _, _, h, _ => h.elim

theorem new_env {scope : Scope} {globals builtins : Addr} {closure : List (Str × Addr)} {binds : List (Str × Value)} {bs : List (Str × V)} {qual : Str} {func : Option Addr} {code : Value} {around : Option Env} {Q : Env → Shared → Prop}
    (S : St c H s) (rb : VRb bs binds)
    (h : ∀ L as s', as.length = (cellNames scope.names).length → St c (cellsH as ((L, .ns []) :: H)) s' →
      bindV c A (newEnv scope L globals (zipC (cellNames scope.names) as closure) qual func code around builtins) bs (fun s => Q (newEnv scope L globals (zipC (cellNames scope.names) as closure) qual func code around builtins) s) s') :
    wpAny c.M A (newFunctionEnv scope globals closure binds qual func code around builtins) Q NoE s := by
  cases around with
  | none =>
    simp only [newFunctionEnv, Option.isSome_none, Bool.false_eq_true, if_false]
    refine wpAny_bind (wpAny_alloc ?_)
    refine wpAny_bind (wpAny_layCells _ (fun name kind cells => by cases hkc : kind == NameKind.cell <;> simp) _ _ _ _ ?_)
    obtain ⟨as, hl, S', e⟩ := lay_St scope.names closure _ _ (S.alloc (co := { cls := .type "frame", data := .dict #[] }) (o := .ns []) (t := s.toks) rfl ⟨List.nodup_nil, #[], 0, rfl, fun _ he => by simp at he, fun x v hv => nomatch hv⟩ (fun _ _ e => nomatch e))
    rw [e]
    exact wpAny_bind (wpAny_mono (bind_loop (newEnv scope s.heap.objs.size globals (zipC (cellNames scope.names) as closure) qual func code none builtins) _ (fun _ _ _ => rfl) bs binds _ _ rb (h _ as _ hl S')) (fun _ s'' h' => wpAny_pure h') fun _ _ e => e)
  | some outer =>
    simp only [newFunctionEnv, Option.isSome_some, if_true]
    refine wpAny_bind (wpAny_alloc ?_)
    refine wpAny_bind (wpAny_layCells _ (fun name kind cells => by cases hkc : kind == NameKind.cell <;> simp) _ _ _ _ ?_)
    obtain ⟨as, hl, S', e⟩ := lay_St scope.names closure _ _ (S.alloc (co := { cls := .type "dict", data := .dict #[] }) (o := .ns []) (t := s.toks) rfl ⟨List.nodup_nil, #[], 0, rfl, fun _ he => by simp at he, fun x v hv => nomatch hv⟩ (fun _ _ e => nomatch e))
    rw [e]
    exact wpAny_bind (wpAny_mono (bind_loop (newEnv scope s.heap.objs.size globals (zipC (cellNames scope.names) as closure) qual func code (some outer) builtins) _ (fun _ _ _ => rfl) bs binds _ _ rb (h _ as _ hl S')) (fun _ s'' h' => wpAny_pure h') fun _ _ e => e)

@[reducible] noncomputable def retF (Q : V → Shared → Prop) : F → Shared → Prop
  | .ret v, s => Q v s
  | _, s => Q .none s

theorem Room.deeper {k : Nat} {A : Around} (R : Room (k + 1) A) (env : Env) : Room k (A.deeper env) :=
  ⟨R.handled, by have := R.depth; show A.depth + 1 + k < _; omega, by have := R.units; show A.units + 3 + 16 * k < _; omega⟩

/-- a call of a def -/
theorem call_fn {k : Nat} {f : Addr} {d : Option Addr} {name qual : Str} {params : Arguments} {body : List Stmt} {sc : Scope} {cl : List (Str × Addr)} {dv kv doc pm cd ct : Value} {an : Option Addr} {sl : Array (Option Value)} {vs : List V} {bs : List (Str × V)} {Q : V → Shared → Prop} {cn : List Str}
    (G : Good c) (S : St c H s) (R : Room (k + 1) A)
    (hf : s.heap.get? f = some ⟨.type "function", d, .func ⟨name, qual, params, .stmts body, sc, mainGlobals, cl, dv, kv, doc, pm, an, cd, ct, builtinsNs⟩, sl⟩) (hc : s.heap.CodeRec cd qual)
    (hb : ∀ xs, VRs vs xs → ∃ binds, bindArgs ⟨name, qual, params, .stmts body, sc, mainGlobals, cl, dv, kv, doc, pm, an, cd, ct, builtinsNs⟩ ⟨xs, []⟩ = pure binds ∧ VRb bs binds)
    (hco : sc.isCoroutine = false) (hgen : sc.isGenerator = false) (hcn : cellNames sc.names = cn)
    (h : ∀ L as s A, Room k A → as.length = cn.length → St c (cellsH as ((L, .ns []) :: H)) s →
      bindV c A (Env.mk sc L mainGlobals (zipC cn as cl) (qual ++ ".<locals>.") (some f) cd (some L) builtinsNs) bs
        (fun s => (∃ H₂, St c H₂ s) ∧ ∀ A, Room k A → wpS c A (execs body (Env.mk sc L mainGlobals (zipC cn as cl) (qual ++ ".<locals>.") (some f) cd (some L) builtinsNs)) (retF Q) s) s) :
    callV c A (.ref f) vs Q s := by
  subst hcn
  rintro _ xs rfl rv
  obtain ⟨binds, eb, rb⟩ := hb xs rv
  refine wpAny_call ?_
  refine codeAny_call_function (by have := R.depth; omega) hf rfl hco hgen rfl hc ?_
  rw [eb]
  refine wpAny_pure ?_
  refine wpAny_mono (new_env (A := A.in1) (Q := fun env s₂ => (∃ H₂, St c H₂ s₂) ∧ ∀ A, Room k A → wpS c A (execs body env) (retF Q) s₂) S rb fun L as s' hl S' => h L as s' A.in1 ⟨R.handled, by have := R.depth; show A.depth + k < _; omega, by have := R.units; show A.units + 1 + 16 * k < _; omega⟩ hl S') (fun env s₂ h₂ => ?_) fun _ _ e => e.elim
  obtain ⟨⟨H₂, S₂⟩, hw⟩ := h₂
  refine ⟨S₂.st.nolimit G, codeAny_func (wpAny_mono (hw (A.deeper env) (R.deeper env)) (fun fl s₃ ⟨g, r, q⟩ => ?_) fun _ _ e => e.elim)⟩
  cases g with
  | next => cases r; exact ⟨.none, rfl, q⟩
  | brk => cases r; exact ⟨.none, rfl, q⟩
  | cont => cases r; exact ⟨.none, rfl, q⟩
  | ret v => obtain ⟨x, rfl, rx⟩ := r; exact ⟨v, rx, q⟩
theorem len0 {α : Type} {as : List α} (h : as.length = 0) : as = [] := List.eq_nil_of_length_eq_zero h
theorem len1 {α : Type} {as : List α} (h : as.length = 1) : ∃ a, as = [a] := List.length_eq_one_iff.mp h
theorem len2 {α : Type} : ∀ {as : List α}, as.length = 2 → ∃ a b, as = [a, b]
  | [a, b], _ => ⟨a, b, rfl⟩
theorem len3 {α : Type} : ∀ {as : List α}, as.length = 3 → ∃ a b c, as = [a, b, c]
  | [a, b, c], _ => ⟨a, b, c, rfl⟩
theorem len5 {α : Type} : ∀ {as : List α}, as.length = 5 → ∃ a b c d e, as = [a, b, c, d, e]
  | [a, b, c, d, e], _ => ⟨a, b, c, d, e, rfl⟩
theorem binds0 {fd : FuncData} (h : bindArgs fd ⟨[], []⟩ = pure []) : ∀ xs, VRs [] xs → ∃ binds, bindArgs fd ⟨xs, []⟩ = pure binds ∧ VRb [] binds
  | [], _ => ⟨_, h, trivial⟩
  | _ :: _, r => r.elim
theorem binds1 {fd : FuncData} {p : Str} {v : V} (h : ∀ x, bindArgs fd ⟨[x], []⟩ = pure [(p, x)]) : ∀ xs, VRs [v] xs → ∃ binds, bindArgs fd ⟨xs, []⟩ = pure binds ∧ VRb [(p, v)] binds
  | [x], r => ⟨_, h x, rfl, r.1, trivial⟩
  | [], r => r.elim
  | _ :: _ :: _, r => r.2.elim
theorem binds2 {fd : FuncData} {p p' : Str} {v v' : V} (h : ∀ x y, bindArgs fd ⟨[x, y], []⟩ = pure [(p, x), (p', y)]) : ∀ xs, VRs [v, v'] xs → ∃ binds, bindArgs fd ⟨xs, []⟩ = pure binds ∧ VRb [(p, v), (p', v')] binds
  | [x, y], r => ⟨_, h x y, rfl, r.1, rfl, r.2.1, trivial⟩
  | [], r => r.elim
  | [_], r => r.2.elim
  | _ :: _ :: _ :: _, r => r.2.2.elim
theorem binds3 {fd : FuncData} {p p' p'' : Str} {v v' v'' : V} (h : ∀ x y z, bindArgs fd ⟨[x, y, z], []⟩ = pure [(p, x), (p', y), (p'', z)]) : ∀ xs, VRs [v, v', v''] xs → ∃ binds, bindArgs fd ⟨xs, []⟩ = pure binds ∧ VRb [(p, v), (p', v'), (p'', v'')] binds
  | [x, y, z], r => ⟨_, h x y z, rfl, r.1, rfl, r.2.1, rfl, r.2.2.1, trivial⟩
  | [], r => r.elim
  | [_], r => r.2.elim
  | [_, _], r => r.2.2.elim
  | _ :: _ :: _ :: _ :: _, r => r.2.2.2.elim
theorem code_old {ca : Addr} {q : Str} (G : Good c) (S : St c H s) (hc : codeTab.lookup ca = some q) (nc : ca ∉ tabsL) : s.heap.CodeRec (.ref ca) q :=
  let ⟨o, fs, t, g, e, r⟩ := G.codes ca q hc; ⟨ca, o, fs, t, rfl, S.st.keep _ _ g nc, e, r⟩
/-- a call of a def of the text -/
theorem call_top {k : Nat} {f ca : Addr} {d : Option Addr} {name qual qq : Str} {params : Arguments} {body : List Stmt} {sc : Scope} {dv kv doc pm ct : Value} {an : Option Addr} {sl : Array (Option Value)} {vs : List V} {bs : List (Str × V)} {Q : V → Shared → Prop} {cn : List Str}
    (G : Good c) (S : St c H s) (R : Room (k + 1) A)
    (hf : (KO c.w.params).lookup f = some ⟨.type "function", d, .func ⟨name, qual, params, .stmts body, sc, mainGlobals, [], dv, kv, doc, pm, an, .ref ca, ct, builtinsNs⟩, sl⟩)
    (hc : codeTab.lookup ca = some qq) (hq : qq = qual) (nf : f ∉ tabsL) (nc : ca ∉ tabsL)
    (hb : ∀ xs, VRs vs xs → ∃ binds, bindArgs ⟨name, qual, params, .stmts body, sc, mainGlobals, [], dv, kv, doc, pm, an, .ref ca, ct, builtinsNs⟩ ⟨xs, []⟩ = pure binds ∧ VRb bs binds)
    (hco : sc.isCoroutine = false) (hgen : sc.isGenerator = false) (hcn : cellNames sc.names = cn)
    (h : ∀ L as s A, Room k A → as.length = cn.length → St c (cellsH as ((L, .ns []) :: H)) s →
      bindV c A (Env.mk sc L mainGlobals (zipC cn as []) (qual ++ ".<locals>.") (some f) (.ref ca) (some L) builtinsNs) bs
        (fun s => (∃ H₂, St c H₂ s) ∧ ∀ A, Room k A → wpS c A (execs body (Env.mk sc L mainGlobals (zipC cn as []) (qual ++ ".<locals>.") (some f) (.ref ca) (some L) builtinsNs)) (retF Q) s) s) :
    callV c A (.ref f) vs Q s :=
  call_fn G S R (S.st.keep _ _ (G.kx _ _ hf) nf) (code_old G S (hq ▸ hc) nc) hb hco hgen hcn h
theorem fn_old {f : Addr} {o : Obj} {fd : FuncData} (G : Good c) (S : St c H s) (hf : (KO c.w.params).lookup f = some o) (hd : o.data = .func fd) (nf : f ∉ tabsL) : FnAt s.heap f := ⟨o, fd, S.st.keep _ _ (G.kx _ _ hf) nf, hd⟩
end
end Mine
end

section
open PySem PySem.W PySem.Calls PyProof.Rows
set_option Elab.async false
set_option maxRecDepth 100000
set_option linter.unusedVariables false
namespace Mine

@[reducible] noncomputable def loopF (K : Shared → Prop) (Q : F → Shared → Prop) : F → Shared → Prop
  | .next, s => K s
  | .cont, s => K s
  | .brk, s => Q .next s
  | .ret v, s => Q (.ret v) s
noncomputable def rit (x left : Int) : Obj := { cls := .type "range_iterator", data := .fields #[rawInt x, rawInt left, rawInt 1] }

section
variable {c : Cx} {A : Around} {s : Shared} {env : Env} {H H' : List (Addr × O)} {Q : V → Shared → Prop}

-- while
-- for
noncomputable def iterV (c : Cx) (A : Around) (v : V) (K : V → Shared → Prop) (s : Shared) : Prop := ∀ x, VR v x → wpV c A (pyIter x) K s
noncomputable def nextV (c : Cx) (A : Around) (it : V) (K : Option V → Shared → Prop) (s : Shared) : Prop :=
  ∀ x, VR it x → wpAny c.M A (pyNext x) (fun r s' => match r with | none => K none s' | some y => ∃ v, VR v y ∧ K (some v) s') NoE s
noncomputable def forV (c : Cx) (A : Around) (target : Expr) (it : V) (body : List Stmt) (env : Env) (Q : F → Shared → Prop) (s : Shared) : Prop :=
  ∀ x, VR it x → codeAny c.M A (.forLoop target x body [] env) (fun r s' => match r with | .ok f => ∃ g, FR g f ∧ Q g s' | .error e => cameBackBy c.M A env NoE e s') s
theorem s_For {target iter : Expr} {body : List Stmt} {pos : Pos} {Q : F → Shared → Prop} (hs : ∀ x, foldedSetIterable iter env x = pure x)
    (h : wpV c A (eval iter env) (fun v s => iterV c A v (fun it s => forV c A target it body env Q s) s) s) : wpS c A (exec (.For target iter body [] pos) env) Q s :=
  wpAny_For (wpAny_mono h (fun x _ ⟨v, r, q⟩ => wpAny_mono (q x r) (fun y _ ⟨it, r', q'⟩ => q' y r') fun _ _ e => e) fun _ _ e => e) hs
theorem for_inv {x : Str} {px : Pos} {it : V} {body : List Stmt} {Q : F → Shared → Prop} (I : Nat → Shared → Prop) (n : Nat) (h0 : I n s)
    (turn : ∀ n s, I n s → nextV c A it (fun r s => match r with
      | none => Q .next s
      | some v => ∀ y, VR v y → wpU c A (storeName env x y) (fun s => wpS c A (execs body env) (loopF (fun s => ∃ m, m < n ∧ I m s) Q) s) s) s) :
    forV c A (.Name x px) it body env Q s := by
  intro z rz
  refine codeAny_forLoop I (fun n s hI => wpAny_mono (turn n s hI z rz) (fun r s₁ h₁ => ?_) fun _ _ e => e.elim) n h0
  cases r with
  | none => exact wpAny_execs_nil ⟨.next, rfl, h₁⟩
  | some y =>
    obtain ⟨v, rv, q⟩ := h₁
    refine wpAny_assign_Name (wpAny_mono (q y rv) (fun _ s₂ h₂ => ?_) fun _ _ e => e.elim)
    refine wpAny_mono h₂ (fun f s₃ ⟨g, r, q⟩ => ?_) fun _ _ e => e.elim
    cases g with
    | next => cases r; exact q
    | brk => cases r; exact ⟨.next, rfl, q⟩
    | cont => cases r; exact q
    | ret v => obtain ⟨x, rfl, rx⟩ := r; exact ⟨.ret v, ⟨x, rfl, rx⟩, q⟩
-- iterators
theorem it_list {a : Addr} {xs : List V} {K : V → Shared → Prop} (S : St c H s) (hr : Holds s.heap a (.list xs)) (h : ∀ it s, St c ((it, .liter a 0) :: H) s → K (.ref it) s) : iterV c A (.ref a) K s := by
  rintro _ rfl
  obtain ⟨its, il, r⟩ := isList_of hr
  exact wpAny_pyIter_list il ⟨.ref _, rfl, h _ _ (S.alloc (o := .liter a 0) (t := s.toks) rfl ⟨rfl, rfl⟩ (fun _ _ e => nomatch e))⟩
theorem nx_list {it l : Addr} {i : Nat} {xs : List V} {v : V} {K : Option V → Shared → Prop} (G : Good c) (S : St c H s) (u : UpdH it (.liter l i) (.liter l (i + 1)) H H') (hr : Holds s.heap l (.list xs)) (hx : xs[i]? = some v)
    (h : ∀ s, St c H' s → K (some v) s) : nextV c A (.ref it) K s := by
  rintro _ rfl
  obtain ⟨its, il, r⟩ := isList_of hr
  obtain ⟨x, e, rx⟩ := r.at hx
  obtain ⟨co, g, o1, o2⟩ := S.st.own _ u.mem
  refine wpAny_pyNext_list_item ⟨co, g, o1, o2⟩ il e fun h' hi sb => ⟨v, rx, h _ (S.upd G u sb.extBut ?_ _ (fun _ _ e => nomatch e))⟩
  obtain ⟨o, ho, p1, p2⟩ := hi
  exact ⟨o, ho, p1, p2⟩
theorem nx_list_end {it l : Addr} {i : Nat} {xs : List V} {K : Option V → Shared → Prop} (G : Good c) (hh : A.handled = none) (S : St c ((it, .liter l i) :: H) s) (hr : Holds s.heap l (.list xs)) (hx : xs.length ≤ i)
    (h : ∀ s, St c H s → K none s) : nextV c A (.ref it) K s := by
  rintro _ rfl
  obtain ⟨its, il, r⟩ := isList_of hr
  obtain ⟨co, g, o1, o2⟩ := S.st.own _ (List.Mem.head _)
  exact wpAny_pyNext_list_end hh ⟨co, g, o1, o2⟩ il (by rw [Array.getElem?_eq_none]; rw [r.size]; exact hx) fun h' eb => h _ (S.but G eb _)
theorem it_range {r : Addr} {a b : Int} {K : V → Shared → Prop} (S : St c H s) (hr : Holds s.heap r (.fld "range" [.int a, .int b, .int 1])) (ha : -(2 ^ 62) ≤ a ∧ a < 2 ^ 62) (hb : -(2 ^ 62) ≤ b ∧ b < 2 ^ 62)
    (h : ∀ it s, St c ((it, .raw (rit a (if a < b then b - a else 0))) :: H) s → K (.ref it) s) : iterV c A (.ref r) K s := by
  rintro _ rfl
  obtain ⟨co, g, its, rfl, rv⟩ := hr
  obtain ⟨l⟩ := its
  obtain ⟨x, y, z, rfl, ⟨t, ex⟩, ⟨u, ey⟩, ⟨v, ez⟩⟩ := rv.thr
  subst ex ey ez
  refine wpAny_pyIter_range (t := t) (u := u) (v := v) g (small_one ha.1 ha.2 hb.1 hb.2) ⟨.ref _, rfl, h _ _ ?_⟩
  rw [rangeSize_one]
  exact S.alloc (o := .raw (rit a (if a < b then b - a else 0))) (t := s.toks) rfl rfl (fun _ _ e => nomatch e)
theorem nx_range {it : Addr} {x left : Int} {K : Option V → Shared → Prop} (G : Good c) (S : St c H s) (u : UpdH it (.raw (rit x left)) (.raw (rit (x + 1) (left - 1))) H H') (hl : 0 < left)
    (h : ∀ s, St c H' s → K (some (.int x)) s) : nextV c A (.ref it) K s := by
  rintro _ rfl
  obtain ⟨co, g, e⟩ := S.st.own _ u.mem
  cases (show co = rit x left from e)
  exact wpAny_pyNext_range_item g hl fun h' hi sb => ⟨.int x, ⟨_, rfl⟩, h _ (S.upd G u sb.extBut ⟨_, hi, rfl⟩ _ (fun _ _ e => nomatch e))⟩
theorem nx_range_end {it : Addr} {x left : Int} {K : Option V → Shared → Prop} (G : Good c) (hh : A.handled = none) (S : St c ((it, .raw (rit x left)) :: H) s) (hl : left ≤ 0)
    (h : ∀ s, St c H s → K none s) : nextV c A (.ref it) K s := by
  rintro _ rfl
  obtain ⟨co, g, e⟩ := S.st.own _ (List.Mem.head _)
  cases (show co = rit x left from e)
  exact wpAny_pyNext_range_end hh g hl fun h' eb => h _ (S.but G eb _)

-- built-ins
theorem k_range1 {n : Int} (S : St c H s) (h : ∀ a s, St c ((a, .fld "range" [.int 0, .int n, .int 1]) :: H) s → Q (.ref a) s) : callV c A (.ty "range") [.int n] Q s := by
  rintro _ xs rfl r
  obtain ⟨x, rfl, ⟨t, ex⟩⟩ := r.one
  subst ex
  exact call_range_1 ⟨.ref _, rfl, h _ _ (S.alloc (o := .fld "range" [.int 0, .int n, .int 1]) (t := s.toks + 1 + 1) rfl ⟨#[.int 0 s.toks, .int n t, .int 1 (s.toks + 1)], rfl, ⟨_, rfl⟩, ⟨_, rfl⟩, ⟨_, rfl⟩, trivial⟩ (fun _ _ e => nomatch e))⟩
theorem k_range2 {m n : Int} (S : St c H s) (h : ∀ a s, St c ((a, .fld "range" [.int m, .int n, .int 1]) :: H) s → Q (.ref a) s) : callV c A (.ty "range") [.int m, .int n] Q s := by
  rintro _ xs rfl r
  obtain ⟨x, y, rfl, ⟨t, ex⟩, ⟨u, ey⟩⟩ := r.two
  subst ex ey
  exact call_range_2 ⟨.ref _, rfl, h _ _ (S.alloc (o := .fld "range" [.int m, .int n, .int 1]) (t := s.toks + 1) rfl ⟨#[.int m t, .int n u, .int 1 s.toks], rfl, ⟨_, rfl⟩, ⟨_, rfl⟩, ⟨_, rfl⟩, trivial⟩ (fun _ _ e => nomatch e))⟩
theorem k_len {a : Addr} {xs : List V} (S : St c H s) (hr : Holds s.heap a (.list xs)) (hl : (xs.length : Int) < 2 ^ 63) (h : ∀ s, St c H s → Q (.int xs.length) s) : callV c A (.bi "len") [.ref a] Q s := by
  rintro _ ys rfl r
  obtain ⟨y, rfl, ey⟩ := r.one
  cases ey
  obtain ⟨its, il, rs⟩ := isList_of hr
  exact call_len_list il (by rw [rs.size]; exact hl) ⟨.int _, ⟨_, by rw [rs.size]⟩, h _ (S.toks _)⟩
theorem k_slen {x : List Nat} (S : St c H s) (hl : (x.length : Int) < 2 ^ 63) (h : ∀ s, St c H s → Q (.int x.length) s) : callV c A (.bi "len") [.str x] Q s := by
  rintro _ ys rfl r
  obtain ⟨y, rfl, ⟨t, ey⟩⟩ := r.one
  subst ey
  refine PySem.P.len_str (x := ⟨x.toArray⟩) (by show ¬ ((x.toArray.size : Int) ≥ 2 ^ 63); simp; omega) ⟨.int _, ⟨s.toks + 1, ?_⟩, h _ (S.toks _)⟩
  show Value.int (x.toArray.size : Int) _ = _
  simp
theorem k_append {a : Addr} {xs : List V} {v : V} (G : Good c) (S : St c H s) (u : UpdH a (.list xs) (.list (xs ++ [v])) H H') (hl : xs.length ≤ 1000000) (h : ∀ s, St c H' s → Q .none s) : callV c A (.bi "list.append") [.ref a, v] Q s := by
  rintro _ ys rfl r
  obtain ⟨y, z, rfl, ey, rz⟩ := r.two
  cases ey
  obtain ⟨its, n, g, rs⟩ := list_of (S.st.own _ u.mem)
  refine wpAny_list_append_plain ⟨n, g⟩ (fun h' pl sb => ⟨.none, rfl, h _ (S.upd G u sb.extBut ?_ _ (fun _ _ e => nomatch e))⟩) (by rw [rs.size, sizeLine_eq]; omega)
  obtain ⟨n', g'⟩ := pl
  exact ⟨_, g', _, n', rfl, by rw [Array.toList_push]; exact rs.append ⟨rz, trivial⟩⟩
end
end Mine
end

section
open PySem PySem.W PySem.Calls PyProof.Rows
set_option Elab.async false
set_option maxRecDepth 100000
set_option linter.unusedVariables false
namespace Mine
section
variable {c : Cx} {A : Around} {s : Shared} {env : Env} {H H' : List (Addr × O)} {h h' : Heap} {Q : V → Shared → Prop}

/-- a table of code has one more row -/
theorem St'.grow {P a : Addr} {ps : Array Value} {pos : Pos} {o : Obj} {fs : Array Value} {t : Tok} (S : St' c H h) (G : Good c) (hP : P ∈ tabsL) (g : h.get? P = some (tabObj ps)) (tr : TriplesOk ps.toList) (hn : codeAmong pos ps.toList = none)
    (e : Heap.ExtBut P h h') (g' : h'.get? P = some (tabObj (ps ++ #[rawInt pos.line, rawInt pos.col, .ref a]))) (ha : h.objs.size ≤ a) (ho : h'.get? a = some o) (hd : o.data = .fields fs) (hq : fs[1]? = some (.str (qualAt pos) t))
    (hpos : ∀ p : Pos, p.line = pos.line → p.col = pos.col → qualAt p = qualAt pos) : St' c H h' := by
  obtain ⟨Z, hZ, hT, hC⟩ := S.fz
  obtain ⟨oP, hoP⟩ := G.tabs P hP
  have neP : ∀ {b : Addr} {x : Obj}, c.s₁.heap.get? b = none → b ≠ P := fun q w => by subst w; rw [hoP] at q; cases q
  have lt : ∀ {b : Addr} {x : Obj}, h.get? b = some x → b ≠ a := fun q w => by
    have := Heap.lt_size q
    subst w
    exact absurd (Nat.lt_of_lt_of_le this ha) (Nat.lt_irrefl _)
  have newA : c.s₁.heap.get? a = none := by
    cases q : c.s₁.heap.get? a with
    | none => rfl
    | some x =>
      by_cases ht : a ∈ tabsL
      · obtain ⟨qs, hp, _⟩ := hT a ht
        exact absurd rfl (lt hp)
      · exact absurd rfl (lt (S.keep _ _ q ht))
  refine ⟨fun b x q ht => e b x (fun w => ht (w ▸ hP)) (S.keep b x q ht), fun p hp => ?_, S.nodup, S.new, (a, o) :: Z, fun p hp => ?_, fun P' hP' => ?_, fun f fd d hm => ?_⟩
  · obtain ⟨co, gg, r⟩ := S.own p hp
    exact ⟨co, e _ _ (neP (x := co) (S.new p hp)) gg, r⟩
  · rcases List.mem_cons.mp hp with rfl | hp
    · refine ⟨ho, newA, fun q => ?_⟩
      obtain ⟨r, hr, er⟩ := List.mem_map.mp q
      obtain ⟨co, gg, _⟩ := S.own r hr
      exact lt gg er
    · exact ⟨e _ _ (neP (x := p.2) (hZ p hp).2.1) (hZ p hp).1, (hZ p hp).2⟩
  · by_cases w : P' = P
    · subst w
      refine ⟨_, g', ?_, ?_⟩
      · have : (ps ++ #[rawInt (pos.line : Int), rawInt (pos.col : Int), Value.ref a]).toList = ps.toList ++ [rawInt pos.line, rawInt pos.col, .ref a] := by simp
        rw [this]
        exact TriplesOk_snoc _ _ _ _ tr
      · intro q x hx
        have : (ps ++ #[rawInt (pos.line : Int), rawInt (pos.col : Int), Value.ref a]).toList = ps.toList ++ [rawInt pos.line, rawInt pos.col, .ref a] := by simp
        rw [this] at hx
        obtain ⟨qs, hp, _, hq'⟩ := hT P' hP'
        have eq : qs = ps := by rw [g] at hp; cases hp; rfl
        subst eq
        cases hc : codeAmong q qs.toList with
        | some y =>
          have key : ∀ (l : List Value), TriplesOk l → ∀ y, codeAmong q l = some y → codeAmong q (l ++ [rawInt (pos.line : Int), rawInt (pos.col : Int), .ref a]) = some y := by
            intro l hl
            fun_induction TriplesOk l with
            | case1 => intro y hy; simp [codeAmong] at hy
            | case2 a' t' b' u' x' rest ih =>
              intro y hy
              simp only [List.cons_append, codeAmong] at hy ⊢
              split at hy
              · rename_i hcc; rw [if_pos hcc]; exact hy
              · rename_i hcc; rw [if_neg hcc]; exact ih hl y hy
            | case3 l h1 h2 => exact hl.elim
          rw [key _ tr y hc] at hx
          obtain ⟨b, eb, o', vs', t', hm, r⟩ := hq' q y hc
          exact ⟨b, (Option.some.inj hx).symm.trans eb, o', vs', t', .tail _ hm, r⟩
        | none =>
          have key : ∀ (l : List Value), TriplesOk l → codeAmong q l = none → ∀ y, codeAmong q (l ++ [rawInt (pos.line : Int), rawInt (pos.col : Int), .ref a]) = some y → y = .ref a ∧ q.line = pos.line ∧ q.col = pos.col := by
            intro l hl
            fun_induction TriplesOk l with
            | case1 =>
              intro _ y hy
              simp only [List.nil_append, codeAmong, rawInt] at hy
              split at hy
              · rename_i hcc
                cases hy
                simp only [Bool.and_eq_true, beq_iff_eq] at hcc
                exact ⟨rfl, by omega, by omega⟩
              · cases hy
            | case2 a' t' b' u' x' rest ih =>
              intro hnn y hy
              simp only [List.cons_append, codeAmong] at hnn hy
              split at hnn
              · cases hnn
              · rename_i hcc; rw [if_neg hcc] at hy; exact ih hl hnn y hy
            | case3 l h1 h2 => exact hl.elim
          obtain ⟨rfl, e1, e2⟩ := key _ tr hc x hx
          exact ⟨a, rfl, o, fs, t, .head _, hd, by rw [hpos q e1 e2]; exact hq⟩
    · obtain ⟨qs, hp, r1, r2⟩ := hT P' hP'
      refine ⟨qs, e _ _ w hp, r1, fun q x hx => ?_⟩
      obtain ⟨b, eb, o', vs', t', hm, r⟩ := r2 q x hx
      exact ⟨b, eb, o', vs', t', .tail _ hm, r⟩
  · obtain ⟨b, eb, o', vs', t', hm', r⟩ := hC f fd d hm
    exact ⟨b, eb, o', vs', t', .tail _ hm', r⟩

theorem fn_code {cc P : Addr} {pos : Pos} {firstLine : Nat} {name qual : Str} {p : Arguments} {sc : Scope} {body : FuncBody} {K : Value → Shared → Prop} (G : Good c) (S : St c H s) (hP : P ∈ tabsL) (hcc : cc ∉ tabsL) (he : env.code = .ref cc)
    (hh : CodeHd c.s₁.heap cc P) (hq : qual = qualAt pos) (hpos : ∀ q : Pos, q.line = pos.line → q.col = pos.col → qualAt q = qualAt pos)
    (h : ∀ a ps s, St c H s → s.heap.get? P = some (tabObj ps) → codeAmong pos ps.toList = some (.ref a) → K (.ref a) s) : wpAny c.M A (functionCode env pos firstLine name qual p sc body) K NoE s := by
  obtain ⟨Z, hZ, hT, hC⟩ := S.st.fz
  obtain ⟨ps, g, tr, hr⟩ := hT P hP
  have hd' : CodeHd s.heap cc P := by
    obtain ⟨o, vs, file, tf, flags, tg, inF, text, tt, e, r⟩ := hh
    exact ⟨o, vs, file, tf, flags, tg, inF, text, tt, S.st.keep _ _ e hcc, r⟩
  cases hc : codeAmong pos ps.toList with
  | some x =>
    obtain ⟨a, rfl, _⟩ := hr pos x hc
    exact wpAny_codeAt_hit he (hd'.code g tr) hc (h a ps s S g hc)
  | none =>
    refine wpAny_functionCodeX he (hd'.code g tr) (hd'.tab g) hc fun a h' tk eb ha hlt ic cr ta _ => ?_
    obtain ⟨c₂, o₂, vs₂, t₂, e₂, g₂, d₂, q₂⟩ := cr
    cases e₂
    have hl : (ps ++ #[rawInt (pos.line : Int), rawInt (pos.col : Int), Value.ref a]).toList = ps.toList ++ [rawInt pos.line, rawInt pos.col, .ref a] := by simp
    exact h a _ _ ⟨S.st.grow G hP g tr hc eb ta.2 ha g₂ d₂ (hq ▸ q₂) hpos, S.os, S.gens⟩ ta.2 (by rw [hl]; exact codeAmong_snoc _ tr hc)

/-- an inner def, or a lambda, becomes an object -/
theorem mk_fn {cc P : Addr} {pos : Pos} {firstLine : Nat} {name qual : Str} {p : Arguments} {sc : Scope} {body : FuncBody} {cl : List (Str × Addr)} (G : Good c) (S : St c H s) (hP : P ∈ tabsL) (hcc : cc ∉ tabsL) (he : env.code = .ref cc) (hg : env.globals = mainGlobals)
    (hh : CodeHd c.s₁.heap cc P) (hq : qual = qualAt pos) (hpos : ∀ q : Pos, q.line = pos.line → q.col = pos.col → qualAt q = qualAt pos) (hcl : closureFor sc env = pure cl)
    (hdoc : (match body with | .stmts b => docOf b | .expr _ => none) = none)
    (h : ∀ f cd ct pm s, St c ((f, .clo ⟨name, qual, p, body, sc, mainGlobals, cl, .none, .none, .none, pm, none, cd, ct, builtinsNs⟩ none) :: H) s → Q (.ref f) s) :
    wpV c A (makeFunction name qual p body sc env [] [] [] pos firstLine) Q s := by
  obtain ⟨mg, bm, ob, n3, eb, nb, nt, gb, b1, b2, b3⟩ := G.bm
  unfold wpV
  simp only [makeFunction, List.zip_nil_right, List.filterMap_nil, List.isEmpty_nil, if_true, pure_bind, hcl]
  have ap : ∀ {α : Type} {m : Sem α} {P : α → Shared → Prop} {s' : Shared}, (St c H s' → wpAny c.M A m P NoE s') → St c H s' → wpAny c.M A m P NoE s' := fun f x => f x
  rcases cl with _ | ⟨x, r⟩
  simp only [List.isEmpty_nil, if_true]
  obtain ⟨ct, hct⟩ : ∃ ct : Value, ct = .none := ⟨_, rfl⟩
  rotate_left
  rw [if_neg (by simp)]
  refine wpAny_bind (wpAny_newTextTuple ?_)
  obtain ⟨ct, hct⟩ : ∃ ct : Value, ct = .ref s.heap.objs.size := ⟨_, rfl⟩
  refine ap (fun S => ?_) (S.ext (t := s.toks) fun _ _ e => Heap.get?_push_of_some _ e)
  all_goals
    refine wpAny_bind (fn_code G S hP hcc he hh hq hpos fun a ps s S hp hc => ?_)
    refine wpAny_bind (wpAny_builtinsFor (bm := bm) (by rw [hg]; exact S.st.ns n3 (by decide)) eb nb (S.st.keep _ _ gb nt) b1 b2 b3 ?_)
    refine wpAny_bind (wpAny_nsGet (by rw [hg]; exact S.st.ns n3 (by decide)) ?_)
    cases body
    all_goals
      first | simp only [show docOf _ = none from hdoc, pure_bind] | simp only [pure_bind]
      rw [hg]
      simp only [newObj]
      refine wpAny_bind (wpAny_alloc (wpAny_pure ⟨.ref _, rfl, h _ (.ref a) ct ((mg "__name__").getD .none) _ ?_⟩))
      refine S.push (o := .clo ⟨name, qual, p, _, sc, mainGlobals, _, .none, .none, .none, (mg "__name__").getD .none, none, .ref a, ct, builtinsNs⟩ none) (t := s.toks) (fun _ _ e => Heap.get?_push_of_some _ e) ⟨_, Heap.get?_push_size _ rfl, by subst hct; rfl⟩ fun fd d e Z hT hZ => ?_
      cases e
      obtain ⟨qs, hp', _, r⟩ := hT P hP
      rw [hp] at hp'
      cases hp'
      obtain ⟨b, eb', r'⟩ := r pos _ hc
      exact ⟨b, eb', by rw [hq]; exact r'⟩
theorem s_Def {cc P : Addr} {pos : Pos} {name : Str} {p : Arguments} {sc : Scope} {body : List Stmt} {cl : List (Str × Addr)} {Q : F → Shared → Prop} (ht : PlainDefTree name p body sc pos) (G : Good c) (S : St c H s) (hP : P ∈ tabsL) (hcc : cc ∉ tabsL) (he : env.code = .ref cc) (hg : env.globals = mainGlobals)
    (hh : CodeHd c.s₁.heap cc P) (hq : qualnameIn env name name = qualAt pos) (hpos : ∀ q : Pos, q.line = pos.line → q.col = pos.col → qualAt q = qualAt pos) (hcl : closureFor sc env = pure cl) (hdoc : docOf body = none)
    (h : ∀ f cd ct pm s, St c ((f, .clo ⟨name, qualAt pos, p, .stmts body, sc, mainGlobals, cl, .none, .none, .none, pm, none, cd, ct, builtinsNs⟩ none) :: H) s → wpU c A (storeName env name (.ref f)) (fun s => Q .next s) s) :
    wpS c A (exec (.FunctionDef name p body [] none [] sc none name pos) env) Q s := by
  unfold wpS
  rw [ht env]
  refine wpAny_bind (wpAny_standAt (wpAny_bind (wpAny_holding ?_)))
  refine wpAny_mono (mk_fn (Q := fun v s => ∀ y, VR v y → wpU c A (storeName env name y) (fun s => Q .next s) s) G S hP hcc he hg hh hq hpos hcl hdoc fun f cd ct pm s S' => ?_) (fun x s' ⟨v, r, q⟩ => ?_) fun _ _ e => e
  · rintro _ rfl
    rw [hq] at S'
    exact h f cd ct pm s S'
  · exact wpAny_bind (wpAny_standAt (wpAny_bind (wpAny_bindName (wpAny_mono (q x r) (fun _ _ h => wpAny_pure ⟨.next, rfl, h⟩) fun _ _ e => e))))
end
end Mine
end

section
open PySem PySem.W PySem.Calls PyProof.Rows
set_option Elab.async false
set_option maxRecDepth 100000
set_option linter.unusedVariables false
namespace Mine
section
variable {c : Cx} {A : Around} {s : Shared} {env : Env} {H H' : List (Addr × O)} {Q : V → Shared → Prop}

/-- one own object taken out -/
inductive DelH (a : Addr) (o : O) : List (Addr × O) → List (Addr × O) → Prop
  | head {r} : DelH a o ((a, o) :: r) r
  | tail {p r r'} : DelH a o r r' → DelH a o (p :: r) (p :: r')
theorem DelH.perm {a : Addr} {o : O} (d : DelH a o H H') : H.Perm ((a, o) :: H') := by
  induction d with
  | head => exact List.Perm.refl _
  | tail _ ih => exact (List.Perm.cons _ ih).trans (List.Perm.swap _ _ _)
theorem nx_list_fin {it l : Addr} {i : Nat} {xs : List V} {K : Option V → Shared → Prop} (G : Good c) (hh : A.handled = none) (S : St c H s) (d : DelH it (.liter l i) H H') (hr : Holds s.heap l (.list xs)) (hx : xs.length ≤ i)
    (h : ∀ s, St c H' s → K none s) : nextV c A (.ref it) K s := nx_list_end G hh (S.perm d.perm) hr hx h
theorem nx_range_fin {it : Addr} {x left : Int} {K : Option V → Shared → Prop} (G : Good c) (hh : A.handled = none) (S : St c H s) (d : DelH it (.raw (rit x left)) H H') (hl : left ≤ 0)
    (h : ∀ s, St c H' s → K none s) : nextV c A (.ref it) K s := nx_range_end G hh (S.perm d.perm) hl h

-- slices
noncomputable def partV (c : Cx) (A : Around) (e : Option Expr) (env : Env) (Q : V → Shared → Prop) (s : Shared) : Prop := wpV c A (evalPart e env) Q s
theorem p_none (h : Q .none s) : partV c A none env Q s := wpAny_pure ⟨.none, rfl, h⟩
theorem p_some {e : Expr} (h : wpV c A (eval e env) Q s) : partV c A (some e) env Q s := h
theorem e_SliceS {l u st : Option Expr} {p : Pos} (h : partV c A l env (fun a s => partV c A u env (fun b s => partV c A st env (fun d s => ∃ H, St c H s ∧ ∀ x s, St c ((x, .fld "slice" [a, b, d]) :: H) s → Q (.ref x) s) s) s) s) :
    wpV c A (eval (.Slice l u st p) env) Q s := by
  refine wpAny_Slice (wpAny_mono h (fun x s₁ ⟨a, ra, h₁⟩ => wpAny_mono h₁ (fun y s₂ ⟨b, rb, h₂⟩ => wpAny_mono h₂ (fun z s₃ ⟨d, rd, H, S, h₃⟩ => ?_) fun _ _ e => e) fun _ _ e => e) fun _ _ e => e)
  exact ⟨.ref _, rfl, h₃ _ _ (S.alloc (o := .fld "slice" [a, b, d]) (t := s₃.toks) rfl ⟨#[x, y, z], rfl, ra, rb, rd, trivial⟩ (fun _ _ e => nomatch e))⟩
theorem slice_of {h : Heap} {a : Addr} {l u st : V} (hh : Holds h a (.fld "slice" [l, u, st])) : ∃ x y z, h.IsSliceOf a x y z ∧ VR l x ∧ VR u y ∧ VR st z := by
  obtain ⟨co, g, its, rfl, rv⟩ := hh
  obtain ⟨ls⟩ := its
  obtain ⟨x, y, z, rfl, rx, ry, rz⟩ := rv.thr
  exact ⟨x, y, z, ⟨_, g, rfl, rfl⟩, rx, ry, rz⟩
theorem sub_from {value slice : Expr} {a x : Addr} {k : Int} {xs : List V} (S : St c H s) (hr : Holds s.heap a (.list xs)) (hx : Holds s.heap x (.fld "slice" [.int k, .none, .none])) (h0 : 0 ≤ k) (hl : xs.length ≤ 1000000)
    (hs : ∀ x y, subscripted slice false x y = operate [x, y] (getItem x y) ∨ subscripted slice false x y = operate [y, x] (getItem x y)) (h : ∀ b s, St c ((b, .list (xs.drop k.toNat)) :: H) s → Q (.ref b) s) : subV c A value slice (.ref a) (.ref x) Q s := by
  rintro _ _ rfl rfl
  obtain ⟨its, il, r⟩ := isList_of hr
  obtain ⟨l, u, st, is, ⟨t, rfl⟩, ru, rst⟩ := slice_of hx
  cases ru; cases rst
  have g : wpAny c.M A (getItem (.ref a) (.ref x)) (fun x s' => ∃ v, VR v x ∧ Q v s') NoE s := by
    refine wpAny_getItem_list_slice il is (.int k t) .none .none (by simp) ⟨.ref _, rfl, h _ _ (S.alloc (o := .list (xs.drop k.toNat)) (t := s.toks) rfl ⟨_, 0, rfl, ?_⟩ (fun _ _ e => nomatch e))⟩ (by rw [r.size, sizeLine_eq]; omega)
    have : slicePick its (some k) none none = (its.toList.drop k.toNat).toArray := by
      have := slicePick_from' its k.toNat
      rwa [Int.toNat_of_nonneg h0] at this
    rw [this, List.toList_toArray]
    exact r.drop _
  rcases hs (.ref a) (.ref x) with e | e
  · exact tail_any il.typeIs slot_list_getitem.lookup g e
  · exact tail_any il.typeIs slot_list_getitem.lookup g e
theorem sub_upto {value slice : Expr} {a x : Addr} {k : Int} {xs : List V} (S : St c H s) (hr : Holds s.heap a (.list xs)) (hx : Holds s.heap x (.fld "slice" [.none, .int k, .none])) (h0 : 0 ≤ k) (hl : xs.length ≤ 1000000)
    (hs : ∀ x y, subscripted slice false x y = operate [x, y] (getItem x y) ∨ subscripted slice false x y = operate [y, x] (getItem x y)) (h : ∀ b s, St c ((b, .list (xs.take k.toNat)) :: H) s → Q (.ref b) s) : subV c A value slice (.ref a) (.ref x) Q s := by
  rintro _ _ rfl rfl
  obtain ⟨its, il, r⟩ := isList_of hr
  obtain ⟨l, u, st, is, ru, ⟨t, rfl⟩, rst⟩ := slice_of hx
  cases ru; cases rst
  have g : wpAny c.M A (getItem (.ref a) (.ref x)) (fun x s' => ∃ v, VR v x ∧ Q v s') NoE s := by
    refine wpAny_getItem_list_slice il is .none (.int k t) .none (by simp) ⟨.ref _, rfl, h _ _ (S.alloc (o := .list (xs.take k.toNat)) (t := s.toks) rfl ⟨_, 0, rfl, ?_⟩ (fun _ _ e => nomatch e))⟩ (by rw [r.size, sizeLine_eq]; omega)
    have : slicePick its none (some k) none = (its.toList.take k.toNat).toArray := by
      have := slicePick_upto' its k.toNat
      rwa [Int.toNat_of_nonneg h0] at this
    rw [this, List.toList_toArray]
    exact r.take _
  rcases hs (.ref a) (.ref x) with e | e
  · exact tail_any il.typeIs slot_list_getitem.lookup g e
  · exact tail_any il.typeIs slot_list_getitem.lookup g e
theorem sub_rev {value slice : Expr} {a x : Addr} {xs : List V} (S : St c H s) (hr : Holds s.heap a (.list xs)) (hx : Holds s.heap x (.fld "slice" [.none, .none, .int (-1)])) (hl : xs.length ≤ 1000000)
    (hs : ∀ x y, subscripted slice false x y = operate [x, y] (getItem x y) ∨ subscripted slice false x y = operate [y, x] (getItem x y)) (h : ∀ b s, St c ((b, .list xs.reverse) :: H) s → Q (.ref b) s) : subV c A value slice (.ref a) (.ref x) Q s := by
  rintro _ _ rfl rfl
  obtain ⟨its, il, r⟩ := isList_of hr
  obtain ⟨l, u, st, is, rl, ru, ⟨t, rfl⟩⟩ := slice_of hx
  cases ru; cases rl
  have g : wpAny c.M A (getItem (.ref a) (.ref x)) (fun x s' => ∃ v, VR v x ∧ Q v s') NoE s := by
    refine wpAny_getItem_list_slice il is .none .none (.int (-1) t) (by simp) ⟨.ref _, rfl, h _ _ (S.alloc (o := .list xs.reverse) (t := s.toks) rfl ⟨_, 0, rfl, ?_⟩ (fun _ _ e => nomatch e))⟩ (by rw [r.size, sizeLine_eq]; omega)
    rw [krv_pick, List.toList_toArray]
    exact r.reverse
  rcases hs (.ref a) (.ref x) with e | e
  · exact tail_any il.typeIs slot_list_getitem.lookup g e
  · exact tail_any il.typeIs slot_list_getitem.lookup g e
theorem clamp1 (m len : Nat) : max (0 : Int) (min (m : Int) (len : Int)) = ((min m len : Nat) : Int) := by
  omega
theorem nneg (m : Nat) : ¬ (m : Int) < 0 := Int.not_lt.mpr (Int.natCast_nonneg m)
theorem strIdx (m n len : Nat) : Builtin.Str.strSliceIndices (some (m : Int)) (some (n : Int)) 1 len = Builtin.Str.strSliceIndices (some ((min m len : Nat) : Int)) (some ((min n len : Nat) : Int)) 1 len := by
  simp only [Builtin.Str.strSliceIndices, nneg, if_false, clamp1, Nat.min_assoc, Nat.min_self, show ((1 : Int) > 0) = True from by simp, if_true]
theorem cutL {α : Type} (l : List α) {m n : Nat} (h : m ≤ n) : (l.drop (min m l.length)).take (min n l.length - min m l.length) = (l.drop m).take (n - m) := by
  rcases Nat.le_total n l.length with q | q
  · rw [Nat.min_eq_left q, Nat.min_eq_left (Nat.le_trans h q)]
  · rw [Nat.min_eq_right q]
    rcases Nat.le_total m l.length with q2 | q2
    · rw [Nat.min_eq_left q2, List.take_of_length_le (by rw [List.length_drop]; exact Nat.le_refl _), List.take_of_length_le (by rw [List.length_drop]; exact Nat.sub_le_sub_right q _)]
    · rw [Nat.min_eq_right q2, Nat.sub_self, List.take_zero, List.drop_eq_nil_of_le q2, List.take_nil]
theorem min_mono {m n len : Nat} (h : m ≤ n) : min m len ≤ min n len := Nat.le_min.mpr ⟨Nat.le_trans (Nat.min_le_left ..) h, Nat.min_le_right ..⟩
theorem sub_str {value slice : Expr} {x : Addr} {a b : Int} {ys : List Nat} (S : St c H s) (hx : Holds s.heap x (.fld "slice" [.int a, .int b, .none])) (h0 : 0 ≤ a) (h1 : a ≤ b) (hl : ys.length ≤ 1000000)
    (hs : ∀ x y, subscripted slice false x y = operate [x, y] (getItem x y) ∨ subscripted slice false x y = operate [y, x] (getItem x y)) (h : ∀ s, St c H s → Q (.str ((ys.drop a.toNat).take (b - a).toNat)) s) : subV c A value slice (.str ys) (.ref x) Q s := by
  rintro _ _ ⟨t, rfl⟩ rfl
  obtain ⟨l, u, st, ⟨o, ho, hc, hd⟩, ⟨t1, rfl⟩, ⟨t2, rfl⟩, rst⟩ := slice_of hx
  cases rst
  obtain ⟨m, rfl⟩ := Int.eq_ofNat_of_zero_le h0
  obtain ⟨n, rfl⟩ := Int.eq_ofNat_of_zero_le (Int.le_trans h0 h1)
  have hmn : m ≤ n := Int.ofNat_le.mp h1
  rw [Int.toNat_natCast, Int.toNat_sub] at h
  have sz : (⟨ys.toArray⟩ : Str).length = ys.length := by simp [Str.length]
  have pick : (slicePicked ⟨ys.toArray⟩ (some ((m : Int), t1)) (some ((n : Int), t2)) none).filterMap ((⟨ys.toArray⟩ : Str).cps[·]?) = (ys.drop m).take (n - m) := by
    show (Builtin.Str.strSliceIndices (some (m : Int)) (some (n : Int)) 1 (⟨ys.toArray⟩ : Str).length).filterMap _ = _
    rw [strIdx, StrLaws.sliced_plain ⟨ys.toArray⟩ (min_mono hmn) (Nat.min_le_right ..)]
    exact cutL ys hmn
  have g : wpAny c.M A (getItem (.str ⟨ys.toArray⟩ t) (.ref x)) (fun x s' => ∃ v, VR v x ∧ Q v s') NoE s := by
    refine wpAny_getItem_str_slice (l := some ((m : Int), t1)) (u := some ((n : Int), t2)) (st := none) ⟨o, ho, hc, hd⟩ rfl ?_
    unfold sliceMade
    split
    · rename_i hl
      refine ⟨.str _, ⟨t, rfl⟩, ?_⟩
      have hl : (slicePicked ⟨ys.toArray⟩ (some ((m : Int), t1)) (some ((n : Int), t2)) none).length = ys.length := by
        have := (Bool.and_eq_true_iff.mp hl).2
        simpa [Str.length] using this
      have : (ys.drop m).take (n - m) = ys := by
        have e : slicePicked ⟨ys.toArray⟩ (some ((m : Int), t1)) (some ((n : Int), t2)) none = (List.range (min n ys.length - min m ys.length)).map (fun k => min m ys.length + k) := by
          show Builtin.Str.strSliceIndices (some (m : Int)) (some (n : Int)) 1 (⟨ys.toArray⟩ : Str).length = _
          rw [sz, strIdx, StrLaws.strSliceIndices_plain (min_mono hmn) (Nat.min_le_right ..)]
        rw [e, List.length_map, List.length_range] at hl
        rw [← cutL ys hmn]
        refine ((List.take_sublist _ _).trans (List.drop_sublist _ _)).eq_of_length ?_
        rw [List.length_take, List.length_drop, hl]
        exact Nat.min_eq_left (Nat.le_trans (Nat.le_of_eq hl.symm) (Nat.sub_le_sub_right (Nat.min_le_right ..) _))
      exact this ▸ h _ S
    · refine ⟨?_, .str _, ⟨_, by rw [pick]⟩, h _ (S.toks _)⟩
      rw [pick, sizeLine_eq]
      show ((ys.drop m).take (n - m)).toArray.size ≤ _
      simp; omega
  rcases hs (.str ⟨ys.toArray⟩ t) (.ref x) with e | e
  · exact tail_any (typeIs_str s _ t) F.slot_str_getitem.lookup g e
  · exact tail_any (typeIs_str s _ t) F.slot_str_getitem.lookup g e
end
end Mine
end

section
open PySem PySem.W PySem.Calls PyProof.Rows PySem.SeqAt
set_option Elab.async false
set_option maxRecDepth 100000
set_option linter.unusedVariables false
namespace Mine
section
variable {c : Cx} {A : Around} {s : Shared} {env : Env} {H H' : List (Addr × O)} {Q : V → Shared → Prop}

theorem sub_char {value slice : Expr} {k : Int} {ys : List Nat} {d : Nat} (S : St c H s) (h0 : 0 ≤ k) (h1 : k < 2 ^ 62) (hx : ys[k.toNat]? = some d)
    (hs : ∀ x y, subscripted slice false x y = operate [x, y] (getItem x y)) (h : ∀ s, St c H s → Q (.str [d]) s) : subV c A value slice (.str ys) (.int k) Q s := by
  rintro _ _ ⟨t, rfl⟩ ⟨u, rfl⟩
  have hlt : k.toNat < ys.length := (List.getElem?_eq_some_iff.mp hx).1
  refine tail_any (typeIs_str s _ t) F.slot_str_getitem.lookup (PyProof.Rows.getItem_str (c := d) ?_ ?_ ⟨.str [d], ⟨_, rfl⟩, h _ (S.toks _)⟩) (hs _ _)
  · simp; omega
  · have : seqIndex? k (⟨ys.toArray⟩ : Str).length = some k.toNat := by
      unfold seqIndex?
      simp [Int.not_lt.mpr h0, Str.length]
      omega
    rw [this]
    simpa using hx

-- the dict of operators
theorem tok_find (l : List (List Nat × Int)) : ∀ (es : List DictEntry), TokR l es → ∀ x : List Nat,
    match l.lookup x with
    | some i => ∃ u, (es.find? (fun d => Value.isStrOf ⟨x.toArray⟩ d.key)).map (·.val) = some (.int i u)
    | none => (es.find? (fun d => Value.isStrOf ⟨x.toArray⟩ d.key)).map (·.val) = none := by
  induction l with
  | nil =>
    intro es h x
    cases es with
    | nil => rfl
    | cons e es => exact (h : False).elim
  | cons p r ih =>
    intro es h x
    obtain ⟨k, i⟩ := p
    cases es with
    | nil => exact (h : False).elim
    | cons e es =>
      obtain ⟨⟨t, u, e1, e2⟩, h⟩ := h
      have ih := ih es h x
      have eq : Value.isStrOf ⟨x.toArray⟩ e.key = decide (x = k) := by
        rw [e1]
        show ((⟨k.toArray⟩ : Str) == ⟨x.toArray⟩) = _
        rw [str_beq]
        by_cases q : x = k
        · simp [q]
        · simp [q, Ne.symm q]
      by_cases q : x = k
      · subst q
        rw [List.lookup_cons, beq_self_eq_true, List.find?_cons_of_pos (by rw [eq]; simp)]
        exact ⟨u, by simp [e2]⟩
      · rw [List.lookup_cons, beq_false_of_ne q, List.find?_cons_of_neg (by rw [eq]; simp [q])]
        exact ih
theorem tok_map (G : Good c) (S : St c H s) : ∃ f : Str → Option Value, s.heap.MapOf (strKind c.prog c.w) 99 f ∧ ∀ x : List Nat, match tokTab.lookup x with
    | some i => ∃ u, f ⟨x.toArray⟩ = some (.int i u)
    | none => f ⟨x.toArray⟩ = none := by
  obtain ⟨es, n, hl, hk, ht⟩ := G.tok
  have hm : s.heap.MapOf (strKind c.prog c.w) 99 (fun k => findBy Value.isStrOf es k) := ⟨_, es, n, S.st.keep _ _ hl (by decide), ⟨rfl, rfl, rfl⟩, rfl, fun e he => by
    obtain ⟨x, t, e1, e2⟩ := hk.all e (Array.mem_toList_iff.mpr he)
    exact ⟨x, by rw [e1]; exact strKind_is c.prog c.w x t, e2⟩, fun _ => rfl⟩
  refine ⟨_, hm, fun x => ?_⟩
  have := tok_find tokTab es.toList ht x
  have e : findBy Value.isStrOf es ⟨x.toArray⟩ = (es.toList.find? fun d => Value.isStrOf ⟨x.toArray⟩ d.key).map (·.val) := by
    unfold findBy; rw [← Array.find?_toList]
  rw [e]
  exact this
theorem in_tok {x : List Nat} (G : Good c) (S : St c H s) (h : ∀ s, St c H s → Q (.bool (tokTab.lookup x).isSome) s) : cmpV c A .In (.str x) (.ref 99) Q s := by
  rintro _ _ ⟨t, rfl⟩ rfl
  obtain ⟨f, hm, hf⟩ := tok_map G S
  refine wpAny_in_of (strKind_is c.prog c.w ⟨x.toArray⟩ t) rfl hm ⟨.bool _, rfl, ?_⟩
  have := hf x
  cases q : tokTab.lookup x with
  | none => rw [q] at this; rw [this]; have := h _ (S.toks (s.toks + 1)); rw [q] at this; exact this
  | some i => rw [q] at this; obtain ⟨u, e⟩ := this; rw [e]; have := h _ (S.toks (s.toks + 1)); rw [q] at this; exact this
theorem sub_tok {value slice : Expr} {x : List Nat} {i : Int} (G : Good c) (S : St c H s) (hx : tokTab.lookup x = some i) (hs : ∀ x y, subscripted slice false x y = operate [x, y] (getItem x y))
    (h : ∀ s, St c H s → Q (.int i) s) : subV c A value slice (.ref 99) (.str x) Q s := by
  rintro _ _ rfl ⟨t, rfl⟩
  obtain ⟨f, hm, hf⟩ := tok_map G S
  have := hf x
  rw [hx] at this
  obtain ⟨u, e⟩ := this
  exact tail_any hm.typeIs slot_dict_getitem.lookup (wpAny_getItem_of (strKind_is c.prog c.w ⟨x.toArray⟩ t) hm e ⟨.int i, ⟨_, rfl⟩, h _ (S.toks _)⟩) (hs _ _)

-- str in str
noncomputable def strIn (x y : List Nat) : Bool := !(Builtin.Str.occurrences ⟨y.toArray⟩ ⟨x.toArray⟩ 0 y.length 1).isEmpty
theorem c_sin {x y : List Nat} (h : Q (.bool (strIn x y)) s) : cmpV c A .In (.str x) (.str y) Q s := by
  rintro _ _ ⟨t, rfl⟩ ⟨u, rfl⟩
  unfold wpV
  (with_reducible refine PyProof.Rows.in_str ?_)
  refine ⟨.bool _, rfl, ?_⟩
  have e : (⟨y.toArray⟩ : Str).length = y.length := by simp [Str.length]
  rw [e]; exact h

-- list operators
theorem o_ladd {a b : Addr} {xs ys : List V} (S : St c H s) (ha : Holds s.heap a (.list xs)) (hb : Holds s.heap b (.list ys)) (hl : xs.length + ys.length ≤ 1000000) (h : ∀ d s, St c ((d, .list (xs ++ ys)) :: H) s → Q (.ref d) s) : opV c A .Add (.ref a) (.ref b) Q s := by
  rintro _ _ rfl rfl
  obtain ⟨i1, n1, g1, r1⟩ := list_of ha
  obtain ⟨i2, n2, g2, r2⟩ := list_of hb
  refine P.add_list g1 g2 ⟨.ref _, rfl, h _ _ (S.alloc (o := .list (xs ++ ys)) (t := s.toks) rfl ⟨_, 0, rfl, ?_⟩ (fun _ _ e => nomatch e))⟩ (by rw [r1.size, r2.size, sizeLine_eq]; omega)
  rw [Array.toList_append]; exact r1.append r2
theorem rep_fold (x : Value) : ∀ (n : Nat) (acc : Array Value), (List.foldl (fun x1 x2 => x1 ++ x2) acc (List.replicate n #[x])).toList = acc.toList ++ List.replicate n x
  | 0, acc => by simp
  | n + 1, acc => by rw [List.replicate_succ, List.foldl_cons, rep_fold x n]; simp [List.replicate_succ]
theorem VRs_rep {v : V} {x : Value} (r : VR v x) : ∀ n : Nat, VRs (List.replicate n v) (List.replicate n x)
  | 0 => trivial
  | n + 1 => ⟨r, VRs_rep r n⟩
theorem o_lmul {a : Addr} {v : V} {k : Int} (S : St c H s) (ha : Holds s.heap a (.list [v])) (hk : -1000000 ≤ k ∧ k ≤ 1000000) (h : ∀ d s, St c ((d, .list (List.replicate k.toNat v)) :: H) s → Q (.ref d) s) : opV c A .Mult (.ref a) (.int k) Q s := by
  rintro _ _ rfl ⟨u, rfl⟩
  obtain ⟨i1, n1, g1, r1⟩ := list_of ha
  obtain ⟨l⟩ := i1
  obtain ⟨x, rfl, rx⟩ := r1.one
  refine wpAny_binaryOp_repeat_ref (T := "list") (U := "int") (by decide) ⟨_, g1, rfl⟩ (fun s' => typeIs_int s' k u) noFill_list_mul F.fills_int_mul F.slot_int_rmul repeat_list F.slot_int_index.lookup
    (call_meets F.slot_int_rmul (typeIs_int s k u) F.entry_int_rmul (F.args_int_rmul_2 _ _) (int___rmul___int_list k u a _ _)
      ⟨g1, rfl, ⟨_, g1, rfl⟩, call_meets F.slot_list_mul ⟨_, g1, rfl⟩ F.entry_list_mul (F.args_list_mul_2 _ _)
        (AutoListH.list___mul___list_int_3 a _ _ k u (by simp [Builtin.List.listFitsIndex]; omega) (by simp; omega) (by simp [Builtin.List.listTooLong, sizeLine]; omega))
        ⟨g1, .ref _, rfl, h _ _ (S.alloc (o := .list (List.replicate k.toNat v)) (t := s.toks) rfl ⟨_, 0, rfl, ?_⟩ (fun _ _ e => nomatch e))⟩⟩)
  have e : (#[x].isEmpty = true) = False := by simp
  simp only [e, if_false]
  rw [rep_fold]
  exact VRs_rep rx _
theorem t_list {a : Addr} {xs : List V} {P : Bool → Shared → Prop} (S : St c H s) (ha : Holds s.heap a (.list xs)) (hl : xs.length ≤ 1000000) (h : ∀ s, St c H s → P (!xs.isEmpty) s) : truV c A (.ref a) P s := by
  rintro _ rfl
  obtain ⟨its, il, r⟩ := isList_of ha
  refine wpAny_truthy_list il (by rw [r.size]; omega) ?_
  have : (!its.isEmpty) = !xs.isEmpty := by
    have := r.size
    cases xs with
    | nil => have : its = #[] := by simpa using this
             subst this; rfl
    | cons x l =>
      have : its.isEmpty = false := by simp [Array.isEmpty, this]
      rw [this]; rfl
  rw [this]
  exact h _ (S.toks _)

-- deep comparisons
noncomputable def PD : V → PyData
  | .none => .none
  | .bool b => .bool b
  | .int i => .int i
  | .str x => .str ⟨x.toArray⟩
  | _ => .none
noncomputable def Flat : V → Prop
  | .none | .bool _ | .int _ | .str _ => True
  | _ => False
theorem reads_of {h : Heap} {v : V} {x : Value} (f : Flat v) (r : VR v x) : Reads h x (PD v) [] := by
  cases v with
  | none => cases r; exact .none
  | bool b => cases r; exact .bool b
  | int i => obtain ⟨t, rfl⟩ := r; exact .int i t
  | str y => obtain ⟨t, rfl⟩ := r; exact .str _ t
  | ref _ => exact f.elim
  | ty _ => exact f.elim
  | bi _ => exact f.elim
theorem readsAll_of {h : Heap} : ∀ {vs : List V} {xs : List Value}, (∀ v ∈ vs, Flat v) → VRs vs xs → ReadsAll h xs (vs.map PD) []
  | [], [], _, _ => .nil
  | v :: vs, x :: xs, f, r => .cons (as := []) (bs := []) (reads_of (f v (.head _)) r.1) (readsAll_of (fun w hw => f w (.tail _ hw)) r.2)
  | [], _ :: _, _, h => h.elim
  | _ :: _, [], _, h => h.elim
theorem reads_list {h : Heap} {a : Addr} {xs : List V} (f : ∀ v ∈ xs, Flat v) (hh : Holds h a (.list xs)) : Reads h (.ref a) (.list (xs.map PD)) [a] := by
  obtain ⟨its, n, g, r⟩ := list_of hh
  exact .list g rfl rfl (readsAll_of f r)
noncomputable def NestR (h : Heap) : List V → List (List V) → Prop
  | [], [] => True
  | v :: vs, xs :: xss => (∃ a, v = .ref a ∧ Holds h a (.list xs) ∧ ∀ w ∈ xs, Flat w) ∧ NestR h vs xss
  | _, _ => False
theorem readsAll_nest {h : Heap} : ∀ {vs : List V} {xss : List (List V)} {ys : List Value}, NestR h vs xss → VRs vs ys → ∃ as, ReadsAll h ys (xss.map fun xs => .list (xs.map PD)) as
  | [], [], [], _, _ => ⟨[], .nil⟩
  | v :: vs, xs :: xss, y :: ys, ⟨⟨a, e, hh, f⟩, n⟩, r => by
    subst e
    obtain ⟨as, ra⟩ := readsAll_nest n r.2
    cases (show y = .ref a from r.1)
    exact ⟨_, .cons (reads_list f hh) ra⟩
  | [], [], _ :: _, _, h => h.elim
  | _ :: _, _ :: _, [], _, h => h.elim
  | [], _ :: _, _, h, _ => h.elim
  | _ :: _, [], _, h, _ => h.elim
theorem reads_nest {h : Heap} {a : Addr} {vs : List V} {xss : List (List V)} (hh : Holds h a (.list vs)) (n : NestR h vs xss) : ∃ as, Reads h (.ref a) (.list (xss.map fun xs => .list (xs.map PD))) as := by
  obtain ⟨its, k, g, r⟩ := list_of hh
  obtain ⟨as, ra⟩ := readsAll_nest n r
  exact ⟨_, .list g rfl rfl ra⟩
theorem c_leq {a b : Addr} {xs ys : List V} (u : A.units + 64 < cLine) (fx : ∀ v ∈ xs, Flat v) (fy : ∀ v ∈ ys, Flat v) (ha : Holds s.heap a (.list xs)) (hb : Holds s.heap b (.list ys)) (sx : shaped (.list (xs.map PD)) = true) (sy : shaped (.list (ys.map PD)) = true)
    (h : Q (.bool (PyData.eqvAll (xs.map PD) (ys.map PD))) s) : cmpV c A .Eq (.ref a) (.ref b) Q s := by
  rintro _ _ rfl rfl
  refine eq_dataH (reads_list fx ha) (reads_list fy hb) sx sy u ⟨.bool _, rfl, ?_⟩
  exact (by simp only [PyData.eqv]; exact h)
theorem c_lne {a b : Addr} {xs ys : List V} (u : A.units + 64 < cLine) (fx : ∀ v ∈ xs, Flat v) (fy : ∀ v ∈ ys, Flat v) (ha : Holds s.heap a (.list xs)) (hb : Holds s.heap b (.list ys)) (sx : shaped (.list (xs.map PD)) = true) (sy : shaped (.list (ys.map PD)) = true)
    (h : Q (.bool (!PyData.eqvAll (xs.map PD) (ys.map PD))) s) : cmpV c A .NotEq (.ref a) (.ref b) Q s := by
  rintro _ _ rfl rfl
  refine ne_dataH (reads_list fx ha) (reads_list fy hb) sx sy u ⟨.bool _, rfl, ?_⟩
  exact (by simp only [PyData.eqv]; exact h)
theorem c_nne {a b : Addr} {vs ws : List V} {xs ys : List (List V)} (u : A.units + 64 < cLine) (ha : Holds s.heap a (.list vs)) (na : NestR s.heap vs xs) (hb : Holds s.heap b (.list ws)) (nb : NestR s.heap ws ys)
    (sx : shaped (.list (xs.map fun xs => .list (xs.map PD))) = true) (sy : shaped (.list (ys.map fun xs => .list (xs.map PD))) = true)
    (h : Q (.bool (!PyData.eqvAll (xs.map fun xs => .list (xs.map PD)) (ys.map fun xs => .list (xs.map PD)))) s) : cmpV c A .NotEq (.ref a) (.ref b) Q s := by
  rintro _ _ rfl rfl
  obtain ⟨as, ra⟩ := reads_nest ha na
  obtain ⟨bs, rb⟩ := reads_nest hb nb
  refine ne_dataH ra rb sx sy u ⟨.bool _, rfl, ?_⟩
  exact (by simp only [PyData.eqv]; exact h)
end
end Mine
end

section
open PySem PySem.W PySem.Calls PyProof.Rows PySem.SeqAt
set_option Elab.async false
set_option maxRecDepth 100000
set_option linter.unusedVariables false
namespace Mine
section
variable {c : Cx} {A : Around} {s : Shared} {env : Env} {H H' : List (Addr × O)} {Q : V → Shared → Prop}

-- methods
noncomputable def getV (c : Cx) (A : Around) (name : Str) (ov : V) (K : V → List V → Shared → Prop) (s : Shared) : Prop :=
  ∀ x pl, VR ov x → wpAny c.M A (getMethod x name pl) (fun fx s => ∃ f first, VR f fx.1 ∧ VRs first fx.2 ∧ K f first s) NoE s
theorem e_CallM {o : Expr} {name : Str} {apos pos : Pos} {args : List Expr}
    (he : eval (.Call (.Attribute o name apos) args [] pos) env = (do
      let ov ← eval o env
      standAt apos.atName
      let (f, first) ← holding [ov] (getMethod ov name (do return (← importBound o env).getD true))
      callWith pos f first (backTo pos (starEach args env)) []))
    (h : wpV c A (eval o env) (fun ov s => getV c A name ov (fun f first s => cwV c A pos f first args env Q s) s) s) : wpV c A (eval (.Call (.Attribute o name apos) args [] pos) env) Q s :=
  MethodCall_ (wpAny_mono h (fun x _ ⟨v, r, q⟩ => wpAny_mono (q x _ r) (fun fx _ ⟨f, first, rf, rs, q⟩ => q _ _ rf rs) fun _ _ e => e) fun _ _ e => e) he
theorem m_bits {i : Int} {K : V → List V → Shared → Prop} (h : K (.bi "int.bit_length") [.int i] s) : getV c A "bit_length" (.int i) K s := by
  rintro _ pl ⟨t, rfl⟩
  exact getMethod_int_bit_length ⟨.bi _, [.int i], rfl, ⟨⟨t, rfl⟩, trivial⟩, h⟩
theorem m_list {a : Addr} {xs : List V} {name : Str} {id : String} {K : V → List V → Shared → Prop} (slot : Slot "list" name id) (hty : typeOf (.builtin id) = pure (.type "method_descriptor")) (hr : Holds s.heap a (.list xs)) (h : K (.bi id) [.ref a] s) : getV c A name (.ref a) K s := by
  rintro _ pl rfl
  obtain ⟨its, n, g, r⟩ := list_of hr
  exact getMethod_builtin ⟨_, g, rfl⟩ PySem.F.plainAttrs_list slot hty (fun a e => by cases e; exact ⟨_, g, rfl⟩) ⟨.bi _, [.ref a], rfl, ⟨rfl, trivial⟩, h⟩
theorem m_append {a : Addr} {xs : List V} {K : V → List V → Shared → Prop} (hr : Holds s.heap a (.list xs)) (h : K (.bi "list.append") [.ref a] s) : getV c A "append" (.ref a) K s := m_list F.slot_list_append F.type_list_append hr h
theorem m_pop {a : Addr} {xs : List V} {K : V → List V → Shared → Prop} (hr : Holds s.heap a (.list xs)) (h : K (.bi "list.pop") [.ref a] s) : getV c A "pop" (.ref a) K s := m_list F.slot_list_pop F.type_list_pop hr h
theorem m_reverse {a : Addr} {xs : List V} {K : V → List V → Shared → Prop} (hr : Holds s.heap a (.list xs)) (h : K (.bi "list.reverse") [.ref a] s) : getV c A "reverse" (.ref a) K s := m_list F.slot_list_reverse F.type_list_reverse hr h
theorem m_str {x : List Nat} {name : Str} {id : String} {K : V → List V → Shared → Prop} (slot : Slot "str" name id) (hty : typeOf (.builtin id) = pure (.type "method_descriptor")) (h : K (.bi id) [.str x] s) : getV c A name (.str x) K s := by
  rintro _ pl ⟨t, rfl⟩
  exact getMethod_builtin (typeIs_str s _ t) PySem.F.plainAttrs_str slot hty (fun a e => nomatch e) ⟨.bi _, [.str x], rfl, ⟨⟨t, rfl⟩, trivial⟩, h⟩
theorem m_join {x : List Nat} {K : V → List V → Shared → Prop} (h : K (.bi "str.join") [.str x] s) : getV c A "join" (.str x) K s := m_str F.slot_str_join F.type_str_join h
theorem m_count {x : List Nat} {K : V → List V → Shared → Prop} (h : K (.bi "str.count") [.str x] s) : getV c A "count" (.str x) K s := m_str F.slot_str_count F.type_str_count h
-- their calls
theorem k_bits {i : Int} (S : St c H s) (h : ∀ s, St c H s → Q (.int (Builtin.Int.intBits i)) s) : callV c A (.bi "int.bit_length") [.int i] Q s := by
  rintro _ xs rfl r
  obtain ⟨x, rfl, ⟨t, ex⟩⟩ := r.one
  subst ex
  exact call_int_bit_length ⟨.int _, ⟨_, rfl⟩, h _ (S.toks _)⟩
theorem k_pop0 {a : Addr} {v : V} {vs : List V} (G : Good c) (S : St c H s) (u : UpdH a (.list (v :: vs)) (.list vs) H H') (hl : vs.length ≤ 1000000) (h : ∀ s, St c H' s → Q v s) : callV c A (.bi "list.pop") [.ref a, .int 0] Q s := by
  rintro _ xs rfl r
  obtain ⟨x, y, rfl, ex, ⟨t, ey⟩⟩ := r.two
  cases ex; subst ey
  obtain ⟨its, n, g, rs⟩ := list_of (S.st.own _ u.mem)
  obtain ⟨l⟩ := its
  match l, rs with
  | z :: zs, ⟨rz, rzs⟩ =>
    have hz : zs.length ≤ 1000000 := by rw [← rzs.length]; exact hl
    refine call_meets PySem.F.slot_list_pop ⟨_, g, rfl⟩ PySem.F.entry_list_pop (PySem.F.args_list_pop_2 _ _) (PySem.MeetsSeq.list_pop_at a _ n 0 t 0 z rfl (by simp [seqIndex?]) (by simp) (by rw [sizeLine_eq]; simp; omega)) ⟨g, v, rz, h _ (S.upd G u (Heap.SameBut.update ..).extBut ?_ _ (fun _ _ e => nomatch e))⟩
    have q := PySem.IsL.update g (fun xs => xs.eraseIdxIfInBounds 0)
    have e : (z :: zs).toArray.eraseIdxIfInBounds 0 = zs.toArray := kl_erase [] zs z
    rw [e] at q
    exact ⟨_, q, _, _, rfl, rzs⟩
theorem k_reverse {a : Addr} {vs : List V} (G : Good c) (S : St c H s) (u : UpdH a (.list vs) (.list vs.reverse) H H') (hl : vs.length ≤ 1000000) (h : ∀ s, St c H' s → Q .none s) : callV c A (.bi "list.reverse") [.ref a] Q s := by
  rintro _ xs rfl r
  obtain ⟨x, rfl, ex⟩ := r.one
  cases ex
  obtain ⟨its, n, g, rs⟩ := list_of (S.st.own _ u.mem)
  refine call_meets PySem.F.slot_list_reverse ⟨_, g, rfl⟩ PySem.F.entry_list_reverse (PySem.F.args_list_reverse_1 _) (AutoSeq1.list_reverse_list_0 a its n (by rw [rs.size, sizeLine_eq]; omega)) ⟨g, .none, rfl, h _ (S.upd G u (Heap.SameBut.update ..).extBut ?_ _ (fun _ _ e => nomatch e))⟩
  have q := PySem.IsL.update g (fun x => x.reverse)
  exact ⟨_, q, _, _, rfl, by rw [Array.toList_reverse]; exact rs.reverse⟩
noncomputable def unStr : V → List Nat
  | .str x => x
  | _ => []
theorem strs_of : ∀ {ys : List (List Nat)} {xs : List Value}, VRs (ys.map .str) xs → StrsAre xs (ys.map fun y => ⟨y.toArray⟩)
  | [], [], _ => .nil
  | y :: ys, x :: xs, ⟨⟨t, e⟩, r⟩ => by subst e; exact .cons _ t (strs_of r)
  | [], _ :: _, h => h.elim
  | _ :: _, [], h => h.elim
theorem join_eq : ∀ ys : List (List Nat), Str.join ⟨#[]⟩ (ys.map fun y => ⟨y.toArray⟩) = ⟨ys.flatten.toArray⟩
  | [] => rfl
  | y :: ys => by
    rw [List.map_cons, PyProof.Rows.join_nil_cons, join_eq ys, str_add_eq]; rfl
theorem k_join {a : Addr} {ys : List (List Nat)} (S : St c H s) (hr : Holds s.heap a (.list (ys.map .str))) (hl : ys.flatten.length ≤ 1000000) (h : ∀ s, St c H s → Q (.str ys.flatten) s) : callV c A (.bi "str.join") [.str [], .ref a] Q s := by
  rintro _ xs rfl r
  obtain ⟨x, y, rfl, ⟨t, ex⟩, ey⟩ := r.two
  subst ex; cases ey
  obtain ⟨its, il, rs⟩ := isList_of hr
  refine join_list il (strs_of rs) ?_ fun t' k => ⟨.str ys.flatten, ⟨t', ?_⟩, h _ (S.toks _)⟩
  · have : ((ys.map fun y => (⟨y.toArray⟩ : Str)).map (·.length)).sum = ys.flatten.length := by
      rw [List.length_flatten, List.map_map]; rfl
    rw [this]
    show _ + _ * 0 ≤ _
    omega
  · rw [show Txt.join ⟨[].toArray⟩ (ys.map fun y => ⟨y.toArray⟩) = ⟨ys.flatten.toArray⟩ from (StrLaws.glued_eq_join _ _).trans (join_eq ys)]
theorem k_count {x y : List Nat} (S : St c H s) (h : ∀ s, St c H s → Q (.int (Txt.count ⟨x.toArray⟩ ⟨y.toArray⟩)) s) : callV c A (.bi "str.count") [.str x, .str y] Q s := by
  rintro _ xs rfl r
  obtain ⟨p, q, rfl, ⟨t, ex⟩, ⟨u, ey⟩⟩ := r.two
  subst ex; subst ey
  exact SC.count ⟨.int _, ⟨_, rfl⟩, h _ (S.toks _)⟩
theorem k_divmod {a b : Int} (S : St c H s) (hb : b ≠ 0) (hs : b.natAbs < 2 ^ 30) (h : ∀ t s, St c ((t, .tup [.int (a.fdiv b), .int (a.fmod b)]) :: H) s → Q (.ref t) s) : callV c A (.bi "divmod") [.int a, .int b] Q s := by
  rintro _ xs rfl r
  obtain ⟨p, q, rfl, ⟨t, ex⟩, ⟨u, ey⟩⟩ := r.two
  subst ex; subst ey
  exact divmod_int hb ⟨.ref _, rfl, h _ _ (S.alloc (o := .tup [.int (a.fdiv b), .int (a.fmod b)]) (t := s.toks + 1 + 1) rfl ⟨#[.int (a.fdiv b) s.toks, .int (a.fmod b) (s.toks + 1)], 0, rfl, ⟨_, rfl⟩, ⟨_, rfl⟩, trivial⟩ (fun _ _ e => nomatch e))⟩ (.inl (PyProof.noPylong_small hs))
theorem k_abs {a : Int} (S : St c H s) (h : ∀ s, St c H s → Q (.int (if a < 0 then -a else a)) s) : callV c A (.bi "abs") [.int a] Q s := by
  rintro _ xs rfl r
  obtain ⟨p, rfl, ⟨t, ex⟩⟩ := r.one
  subst ex
  exact call_abs_int fun u tk => ⟨.int _, ⟨_, rfl⟩, h _ (S.toks _)⟩
noncomputable def maxI (ns : List Int) : Int := (ns[argBest (fun i j => decide ((ns[i]?).getD 0 > (ns[j]?).getD 0)) (ns.length - 1)]?).getD 0
theorem pairs_of : ∀ {ns : List Int} {xs : List Value}, VRs (ns.map .int) xs → ∃ ps : List (Int × Tok), xs = ps.map (fun p => .int p.1 p.2) ∧ ns = ps.map (·.1)
  | [], [], _ => ⟨[], rfl, rfl⟩
  | n :: ns, x :: xs, ⟨⟨t, e⟩, r⟩ => by
    obtain ⟨ps, e1, e2⟩ := pairs_of r
    exact ⟨(n, t) :: ps, by simp [e, e1], by simp [e2]⟩
  | [], _ :: _, h => h.elim
  | _ :: _, [], h => h.elim
theorem k_max {a : Addr} {ns : List Int} (hh : A.handled = none) (S : St c H s) (hr : Holds s.heap a (.list (ns.map .int))) (hn : 0 < ns.length) (h : ∀ s, St c H s → Q (.int (maxI ns)) s) : callV c A (.bi "max") [.ref a] Q s := by
  rintro _ xs rfl r
  obtain ⟨p, rfl, ep⟩ := r.one
  cases ep
  obtain ⟨its, il, rs⟩ := isList_of hr
  obtain ⟨ps, e1, e2⟩ := pairs_of rs
  have e : its = intItems ps.toArray := by
    unfold intItems
    apply Array.toList_inj.mp
    rw [e1]; simp
  subst e
  refine max_intList hh il (by rw [e2] at hn; simpa using hn) fun v h' tk hv hk => ⟨.int (maxI ns), ?_, h _ (S.ext hk _)⟩
  have en : (fun i j => decide (numAt ps.toArray i > numAt ps.toArray j)) = fun i j => decide ((ns[i]?).getD 0 > (ns[j]?).getD 0) := by
    funext i j
    rw [e2]; simp [numAt]
  rw [en] at hv
  have es : ps.toArray.size - 1 = ns.length - 1 := by rw [e2]; simp
  rw [es] at hv
  unfold maxI
  simp only [intItems, Array.getElem?_map, Option.map_eq_some_iff] at hv
  obtain ⟨q, hq, rfl⟩ := hv
  refine ⟨q.2, ?_⟩
  congr 1
  generalize argBest _ _ = m at hq ⊢
  rw [e2]
  simp at hq
  simp [hq]

-- reversed
theorem k_reversed {a : Addr} {xs : List V} (S : St c H s) (hr : Holds s.heap a (.list xs)) (h : ∀ it s, St c ((it, .riter a ((xs.length : Int) - 1)) :: H) s → Q (.ref it) s) : callV c A (.ty "reversed") [.ref a] Q s := by
  rintro _ ys rfl r
  obtain ⟨p, rfl, ep⟩ := r.one
  cases ep
  obtain ⟨its, il, rs⟩ := isList_of hr
  refine call_reversed_list il ⟨.ref _, rfl, h _ _ ?_⟩
  rw [rs.size]
  exact S.alloc (o := .riter a ((xs.length : Int) - 1)) (t := s.toks) rfl ⟨rfl, rfl⟩ (fun _ _ e => nomatch e)
theorem it_rev {it l : Addr} {i : Int} {K : V → Shared → Prop} (hr : Holds s.heap it (.riter l i)) (h : K (.ref it) s) : iterV c A (.ref it) K s := by
  rintro _ rfl
  obtain ⟨co, g, e1, e2⟩ := hr
  exact wpAny_pyIter_revIter ⟨_, g, e1, e2⟩ ⟨.ref it, rfl, h⟩
theorem nx_rev {it l : Addr} {i : Nat} {xs : List V} {v : V} {K : Option V → Shared → Prop} (G : Good c) (S : St c H s) (u : UpdH it (.riter l (i : Int)) (.riter l ((i : Int) - 1)) H H') (hr : Holds s.heap l (.list xs)) (hx : xs[i]? = some v)
    (h : ∀ s, St c H' s → K (some v) s) : nextV c A (.ref it) K s := by
  rintro _ rfl
  obtain ⟨its, il, r⟩ := isList_of hr
  obtain ⟨x, e, rx⟩ := r.at hx
  obtain ⟨co, g, e1, e2⟩ := S.st.own _ u.mem
  exact wpAny_pyNext_rev_item ⟨_, g, e1, e2⟩ il e fun h' ⟨o, ho, q1, q2⟩ sb => ⟨v, rx, h _ (S.upd G u sb.extBut ⟨o, ho, q1, q2⟩ _ (fun _ _ e => nomatch e))⟩
theorem nx_rev_end {it l : Addr} {K : Option V → Shared → Prop} (G : Good c) (hh : A.handled = none) (S : St c H s) (d : DelH it (.riter l (-1)) H H') (h : ∀ s, St c H' s → K none s) : nextV c A (.ref it) K s := by
  rintro _ rfl
  have S' := S.perm d.perm
  obtain ⟨co, g, e1, e2⟩ := S'.st.own _ (List.Mem.head _)
  exact wpAny_pyNext_rev_end hh ⟨_, g, e1, e2⟩ fun h' eb => h _ (S'.but G eb _)

-- assignments
noncomputable def asgV (c : Cx) (A : Around) (env : Env) : List Expr → List V → (Shared → Prop) → Shared → Prop
  | [], [], Q, s => Q s
  | .Name x _ :: es, v :: vs, Q, s => ∀ y, VR v y → wpU c A (storeName env x y) (fun s => asgV c A env es vs Q s) s
  | _, _, _, _ => False
theorem asg_run {env : Env} : ∀ (es : List Expr) (vs : List V) (xs : List Value) (Q : Shared → Prop) (s : Shared), VRs vs xs → asgV c A env es vs Q s → wpU c A (assignInOrder ((assignEach es env).map (·.2)) xs) Q s := by
  intro es
  induction es with
  | nil => intro vs xs Q s r h; cases vs with
    | nil => cases xs with
      | nil => exact wpAny_pure h
      | cons _ _ => exact r.elim
    | cons _ _ => exact h.elim
  | cons e es ih =>
    intro vs xs Q s r h
    cases vs with
    | nil => cases e <;> exact h.elim
    | cons v vs =>
      cases xs with
      | nil => exact r.elim
      | cons y ys =>
        cases e with
        | Name x p =>
          have h : ∀ y, VR v y → wpU c A (storeName env x y) (fun s => asgV c A env es vs Q s) s := h
          have e : (assignEach (.Name x p :: es) env).map (·.2) = assign (.Name x p) env :: (assignEach es env).map (·.2) := rfl
          rw [e]
          exact PyProof.Rows.assignInOrder_cons (wpAny_assign_Name (wpAny_mono (h y r.1) (fun _ s' h' => ih vs ys Q s' r.2 h') fun _ _ e => e))
        | _ => exact h.elim
theorem s_AssignT {elts : List Expr} {k : Nat} {tpos pos : Pos} {value : Expr} {Q : F → Shared → Prop} (hh : A.handled = none) (hs : swapsWithSole [.Tuple elts k tpos] value pos.line env = pure false) (hw : swappedStores [.Tuple elts k tpos] value env = pure none)
    (hstar : (assignEach elts env).findIdx? (·.1) = none)
    (h : wpV c A (eval value env) (fun v s => ∃ t vs H, v = .ref t ∧ St c H s ∧ Holds s.heap t (.tup vs) ∧ (assignEach elts env).length = vs.length ∧ ∀ s, St c H s → asgV c A env elts vs (fun s => Q .next s) s) s) :
    wpS c A (exec (.Assign [.Tuple elts k tpos] value pos) env) Q s := by
  refine Assign_Tuple (wpAny_mono h (fun x s₁ ⟨v, r, t, vs, H, e, S, ht, hl, q⟩ => ?_) fun _ _ e => e) hs hw
  subst e
  cases r
  obtain ⟨its, it, rv⟩ := tup_of ht
  refine wpAny_assign_Tuple hh it (by rw [hl, rv.size]) hstar fun h' eb => ?_
  refine wpAny_mono (asg_run _ _ _ _ _ rv (q _ (S.ext (t := s₁.toks) fun b o e => eb b o (fun w => ?_) e))) (fun _ _ h => ⟨.next, rfl, h⟩) fun _ _ e => e
  have := Heap.lt_size e
  exact absurd (w ▸ this) (Nat.lt_irrefl _)
theorem s_AssignSub {o i : Expr} {pos' pos : Pos} {value : Expr} {Q : F → Shared → Prop} (hs : swapsWith value (some (.Subscript o i pos')) pos.line env = pure false)
    (h : wpV c A (eval value env) (fun v s => wpV c A (eval o env) (fun ov s => wpV c A (eval i env) (fun iv s => ∀ x y z, VR ov x → VR iv y → VR v z → wpU c A (setItem x y z) (fun s => Q .next s) s) s) s) s) :
    wpS c A (exec (.Assign [.Subscript o i pos'] value pos) env) Q s :=
  wpAny_Assign_Subscript (wpAny_mono h (fun z s₁ ⟨v, rv, q⟩ => wpAny_mono q (fun x s₂ ⟨ov, ro, q⟩ => wpAny_mono q (fun y s₃ ⟨iv, ri, q⟩ => wpAny_mono (q x y z ro ri rv) (fun _ _ h => ⟨.next, rfl, h⟩) fun _ _ e => e) fun _ _ e => e) fun _ _ e => e) fun _ _ e => e) hs
theorem set_list {a : Addr} {k : Int} {xs : List V} {v : V} {x y z : Value} {Q : Shared → Prop} (G : Good c) (S : St c H s) (u : UpdH a (.list xs) (.list (xs.set k.toNat v)) H H') (h0 : 0 ≤ k) (h1 : k < xs.length) (h2 : k < 2 ^ 62) (rx : VR (.ref a) x) (ry : VR (.int k) y) (rz : VR v z)
    (h : ∀ s, St c H' s → Q s) : wpU c A (setItem x y z) Q s := by
  cases rx
  obtain ⟨t, rfl⟩ := ry
  obtain ⟨its, n, g, rs⟩ := list_of (S.st.own _ u.mem)
  refine ki_setAt (n := n) g h0 (by omega) (by rw [rs.size]; exact h1) (h _ (S.upd G u (Heap.SameBut.update ..).extBut ?_ _ (fun _ _ e => nomatch e)))
  have q := PySem.IsL.update g (·.setIfInBounds k.toNat z)
  refine ⟨_, q, _, _, rfl, ?_⟩
  rw [Array.toList_setIfInBounds]
  exact rs.set _ rz
end
end Mine
end

section
open PySem PySem.W PySem.Calls PyProof.Rows PySem.SeqAt
set_option Elab.async false
set_option maxRecDepth 100000
set_option linter.unusedVariables false
namespace Mine
section
variable {c : Cx} {A : Around} {s : Shared} {env : Env} {H H' : List (Addr × O)} {Q : V → Shared → Prop}

-- iterators handed on
theorem again_liter {it l : Addr} {i : Nat} {K : V → Shared → Prop} (hr : Holds s.heap it (.liter l i)) (h : K (.ref it) s) : iterV c A (.ref it) K s := by
  rintro _ rfl
  obtain ⟨co, g, e1, e2⟩ := hr
  exact wpAny_pyIter_listiter ⟨co, g, e1, e2⟩ ⟨.ref it, rfl, h⟩
theorem again_rit {it : Addr} {x left : Int} {K : V → Shared → Prop} (hr : Holds s.heap it (.raw (rit x left))) (h : K (.ref it) s) : iterV c A (.ref it) K s := by
  rintro _ rfl
  obtain ⟨co, g, e⟩ := hr
  cases (show co = rit x left from e)
  exact wpAny_pyIter_rangeiter (x := x) (left := left) (step := 1) g ⟨.ref it, rfl, h⟩
theorem it_str {x : List Nat} {K : V → Shared → Prop} (S : St c H s) (ha : x.all (· < 128) = true) (h : ∀ it s, St c ((it, .siter x 0) :: H) s → K (.ref it) s) : iterV c A (.str x) K s := by
  rintro _ ⟨t, rfl⟩
  exact wpAny_pyIter_ascii (by simpa using ha) ⟨.ref _, rfl, h _ _ (S.alloc (o := .siter x 0) (t := s.toks) rfl ⟨rfl, t, rfl⟩ (fun _ _ e => nomatch e))⟩
theorem again_str {it : Addr} {x : List Nat} {i : Nat} {K : V → Shared → Prop} (hr : Holds s.heap it (.siter x i)) (h : K (.ref it) s) : iterV c A (.ref it) K s := by
  rintro _ rfl
  obtain ⟨co, g, e1, t, e2⟩ := hr
  exact wpAny_pyIter_striter_ascii ⟨co, g, e1, e2⟩ ⟨.ref it, rfl, h⟩
theorem nx_str {it : Addr} {x : List Nat} {i d : Nat} {K : Option V → Shared → Prop} (G : Good c) (S : St c H s) (u : UpdH it (.siter x i) (.siter x (i + 1)) H H') (hx : x[i]? = some d) (h : ∀ s, St c H' s → K (some (.str [d])) s) : nextV c A (.ref it) K s := by
  rintro _ rfl
  obtain ⟨co, g, e1, t, e2⟩ := S.st.own _ u.mem
  refine wpAny_pyNext_ascii_item ⟨co, g, e1, e2⟩ (by simpa using hx) fun h' hi sb => ⟨.str [d], ⟨_, rfl⟩, h _ (S.upd G u sb.extBut ?_ _ (fun _ _ e => nomatch e))⟩
  obtain ⟨o, ho, q1, q2⟩ := hi
  exact ⟨o, ho, q1, t, q2⟩
theorem nx_str_end {it : Addr} {x : List Nat} {i : Nat} {K : Option V → Shared → Prop} (G : Good c) (hh : A.handled = none) (S : St c H s) (d : DelH it (.siter x i) H H') (hx : x.length ≤ i) (h : ∀ s, St c H' s → K none s) : nextV c A (.ref it) K s := by
  rintro _ rfl
  have S' := S.perm d.perm
  obtain ⟨co, g, e1, t, e2⟩ := S'.st.own _ (List.Mem.head _)
  exact wpAny_pyNext_ascii_end hh ⟨co, g, e1, e2⟩ (by simpa using hx) fun h' eb => h _ (S'.but G eb _)

-- comprehensions
noncomputable def compV (c : Cx) (A : Around) (elt : Expr) (x : Str) (px : Pos) (iter : Expr) (ifs : List Expr) (scope : Scope) (pos : Pos) (it : V) (acc : Addr) (cenv : Env) (K : Shared → Prop) (s : Shared) : Prop :=
  ∀ y, VR it y → codeAny c.M A (.compLoop (.ListComp elt [⟨.Name x px, iter, ifs, 0⟩] scope pos) 0 y (.ref acc) cenv) (fun r s' => match r with | .ok _ => K s' | .error _ => False) s
theorem notE {A : Around} {cenv : Env} {K : Shared → Prop} {x : Value} {s : Shared} (h : NoE x s) : notedBy c.M A cenv (fun e s' => (match (Except.error e : Result) with | .ok _ => K s' | .error _ => False)) x s := h.elim
theorem comp_inv {elt iter : Expr} {x : Str} {px pos : Pos} {scope : Scope} {it : V} {acc : Addr} {cenv : Env} {K : Shared → Prop} (I : Nat → Shared → Prop) (n : Nat) (h0 : I n s)
    (turn : ∀ n s, I n s → nextV c A it (fun r s => match r with
      | none => K s
      | some v => ∀ y, VR v y → wpU c A (storeName cenv x y) (fun s => wpV c A (eval elt cenv) (fun w s => callV c A (.bi "list.append") [.ref acc, w] (fun _ s => ∃ m, m < n ∧ I m s) s) s) s) s) :
    compV c A elt x px iter [] scope pos it acc cenv K s := by
  intro z rz
  refine codeAny_compLoop_list I (fun n s hI => wpAny_mono (turn n s hI z rz) (fun r s₁ h₁ => ?_) fun _ _ e => e.elim) n h0 (fun _ => rfl)
  cases r with
  | none => exact h₁
  | some y =>
    obtain ⟨v, rv, q⟩ := h₁
    refine wpAny_assign_Name (wpAny_mono (q y rv) (fun _ s₂ h₂ => ?_) fun _ _ e => e.elim)
    refine wpAny_mono h₂ (fun w s₃ ⟨wv, rw', q⟩ => ?_) fun _ _ e => e.elim
    exact wpAny_mono (q _ _ rfl ⟨rfl, rw', trivial⟩) (fun _ _ ⟨_, _, q⟩ => q) fun _ _ e => e.elim
theorem comp_inv1 {elt iter t : Expr} {x : Str} {px pos : Pos} {scope : Scope} {it : V} {acc : Addr} {cenv : Env} {K : Shared → Prop} (I : Nat → Shared → Prop) (n : Nat) (h0 : I n s)
    (turn : ∀ n s, I n s → nextV c A it (fun r s => match r with
      | none => K s
      | some v => ∀ y, VR v y → wpU c A (storeName cenv x y) (fun s => wpB c A (isTrue t cenv (eval t cenv)) (fun ok s => (ok = true → wpV c A (eval elt cenv) (fun w s => callV c A (.bi "list.append") [.ref acc, w] (fun _ s => ∃ m, m < n ∧ I m s) s) s) ∧
          (ok = false → ∃ m, m < n ∧ I m s)) s) s) s) :
    compV c A elt x px iter [t] scope pos it acc cenv K s := by
  intro z rz
  refine codeAny_compLoop_tests I (fun n s hI => wpAny_mono (turn n s hI z rz) (fun r s₁ h₁ => ?_) fun _ _ e => e.elim) n h0 (fun _ => rfl)
  cases r with
  | none => exact h₁
  | some y =>
    obtain ⟨v, rv, q⟩ := h₁
    refine wpAny_assign_Name (wpAny_mono (q y rv) (fun _ s₂ h₂ => ?_) fun _ _ e => e.elim)
    refine wpAny_tests_one (wpAny_mono h₂ (fun ok s₃ h₃ => ?_) fun _ _ e => e.elim)
    cases ok with
    | true =>
      rw [if_pos rfl]
      refine wpAny_mono (h₃.1 rfl) (fun w s₃ ⟨wv, rw', q⟩ => ?_) fun _ _ e => e.elim
      exact wpAny_mono (q _ _ rfl ⟨rfl, rw', trivial⟩) (fun _ _ ⟨_, _, q⟩ => q) fun _ _ e => e.elim
    | false => rw [if_neg (by decide)]; exact h₃.2 rfl

theorem newEnv_some (scope : Scope) (L g : Addr) (cl : List (Str × Addr)) (q : Str) (code : Value) (outer : Env) (b : Addr) :
    { newEnv scope L g cl q none code (some outer) b with scope := relabel scope outer } = Env.mk (relabel scope outer) L g cl q none outer.code outer.frame outer.builtins := rfl
theorem comp_core {elt iter : Expr} {x : Str} {px pos p0 : Pos} {ifs : List Expr} {scope : Scope} {cl : List (Str × Addr)} {cn : List Str} {use : Option (Value → Sem Unit)} {QQ : Value → Shared → Prop}
    (hs : ∀ x, foldedSetIterable iter env x = pure x) (hclos : closureFor scope env = pure cl) (hkind : scope.kind = .function) (hnames : ∀ y ∈ scope.names, y.2 = .local → scope.names.lookup y.1 = some .local) (hcn : cellNames scope.names = cn)
    (h : wpV c A (eval iter env) (fun v s => iterV c A v (fun it s => ∃ ia H, it = .ref ia ∧ St c H s ∧ ∀ acc L as s, as.length = cn.length → St c (cellsH as ((L, .ns []) :: (acc, .list []) :: H)) s →
      iterV c A it (fun it' s' => it' = it ∧ s' = s) s ∧
      compV c A elt x px iter ifs scope pos it acc (Env.mk (relabel scope env) L env.globals (zipC cn as cl) env.qual none env.code env.frame env.builtins)
        (fun s => compPost c.M A NoE use QQ (.ref acc) L (.ok .next) s) s) s) s) :
    wpAny c.M A (comprehension (.ListComp elt [⟨.Name x px, iter, ifs, 0⟩] scope pos) scope env p0 (newList []) false (eval iter env) use) QQ NoE s := by
  subst hcn
  refine wpAny_comprehension_free (use := use) rfl hs hclos hkind hnames (wpAny_mono h (fun xv s₁ ⟨v, rv, h₁⟩ => wpAny_mono (h₁ xv rv) (fun itv s₂ ⟨it, ri, ia, H, ei, S, h₂⟩ => ?_) fun _ _ e => e) fun _ _ e => e)
  refine wpAny_newList ?_ (by simp)
  refine wpAny_mono (new_env (A := A) (Q := fun env' s₄ => codeAny c.M A (.compStart (.ListComp elt [⟨.Name x px, iter, ifs, 0⟩] scope pos) 0 itv (.ref s₂.heap.objs.size) { env' with scope := relabel scope env }) (compPost c.M A NoE use QQ (.ref s₂.heap.objs.size) env'.locals) s₄)
    (bs := []) (binds := []) (S.alloc (o := .list []) (t := s₂.toks) rfl ⟨#[], 0, rfl, trivial⟩ (fun _ _ e => nomatch e)) trivial fun L as s' hl S' => ?_) (fun _ _ q => q) fun _ _ e => e
  obtain ⟨ha, hb⟩ := h₂ _ L as s' hl S'
  show codeAny c.M A _ _ s'
  have key : ∀ s'', s'' = s' → ∀ y, y = itv → codeAny c.M A (.compLoop (.ListComp elt [⟨.Name x px, iter, ifs, 0⟩] scope pos) 0 y (.ref s₂.heap.objs.size) (Env.mk (relabel scope env) L env.globals (zipC (cellNames scope.names) as cl) env.qual none env.code env.frame env.builtins))
      (compPost c.M A NoE use QQ (.ref s₂.heap.objs.size) L) s'' := by
    rintro _ rfl _ rfl
    refine codeAny_mono (hb _ ri) fun r s' q => ?_
    cases r with
    | ok f => cases use <;> exact q
    | error e => exact q.elim
  refine codeAny_compStart_list (key _ rfl _ rfl) (wpAny_mono (ha _ ri) (fun y s'' ⟨v', r', e1, e2⟩ => ?_) fun _ _ e => e.elim)
  subst e1 ei
  cases r'; cases ri
  exact key _ e2 _ rfl
/-- how a comprehension lets its own names go -/
noncomputable def endV (c : Cx) (L : Addr) (K : Shared → Prop) (s : Shared) : Prop := ∃ H₁ H₂ m, St c H₁ s ∧ DelH L (.ns m) H₁ H₂ ∧ ∀ s, St c H₂ s → K s
theorem end_run {L : Addr} {K : Shared → Prop} (G : Good c) (h : endV c L K s) : ∃ m, s.heap.Ns L m ∧ ∀ h', Heap.SameBut L s.heap h' → K { s with heap := h' } := by
  obtain ⟨H₁, H₂, m, S, d, k⟩ := h
  have S' := S.perm d.perm
  obtain ⟨_, f, n, _⟩ := ns_of (S'.st.own _ (List.Mem.head _))
  exact ⟨f, n, fun h' sb => k _ (S'.but G sb.extBut s.toks)⟩
theorem e_Comp {elt iter : Expr} {x : Str} {px pos : Pos} {ifs : List Expr} {scope : Scope} {cl : List (Str × Addr)} {cn : List Str} (G : Good c)
    (hs : ∀ x, foldedSetIterable iter env x = pure x) (hclos : closureFor scope env = pure cl) (hkind : scope.kind = .function) (hnames : ∀ y ∈ scope.names, y.2 = .local → scope.names.lookup y.1 = some .local) (hcn : cellNames scope.names = cn)
    (h : wpV c A (eval iter env) (fun v s => iterV c A v (fun it s => ∃ ia H, it = .ref ia ∧ St c H s ∧ ∀ acc L as s, as.length = cn.length → St c (cellsH as ((L, .ns []) :: (acc, .list []) :: H)) s →
      iterV c A it (fun it' s' => it' = it ∧ s' = s) s ∧
      compV c A elt x px iter ifs scope pos it acc (Env.mk (relabel scope env) L env.globals (zipC cn as cl) env.qual none env.code env.frame env.builtins) (endV c L fun s => Q (.ref acc) s) s) s) s) :
    wpV c A (eval (.ListComp elt [⟨.Name x px, iter, ifs, 0⟩] scope pos) env) Q s := by
  unfold wpV
  rw [eval_ListComp]
  refine comp_core hs hclos hkind hnames hcn (wpAny_mono h (fun xv s₁ ⟨v, rv, h₁⟩ => ⟨v, rv, fun y ry => wpAny_mono (h₁ y ry) (fun itv s₂ ⟨it, ri, ia, H, ei, S, h₂⟩ => ⟨it, ri, ia, H, ei, S, fun acc L as s hl S' => ⟨(h₂ acc L as s hl S').1, fun y ry => codeAny_mono ((h₂ acc L as s hl S').2 y ry) fun r s' q => ?_⟩⟩) fun _ _ e => e⟩) fun _ _ e => e)
  cases r with
  | ok f =>
    obtain ⟨m, n, k⟩ := end_run G q
    exact ⟨m, n, fun h' sb => ⟨.ref acc, rfl, k h' sb⟩⟩
  | error e => exact q
theorem s_AssignComp {elt iter : Expr} {x t : Str} {px pos pt pa : Pos} {ifs : List Expr} {scope : Scope} {cl : List (Str × Addr)} {cn : List Str} {Q : F → Shared → Prop} (G : Good c)
    (hsw : swapsWith (.ListComp elt [⟨.Name x px, iter, ifs, 0⟩] scope pos) (some (.Name t pt)) pa.line env = pure true)
    (hs : ∀ x, foldedSetIterable iter env x = pure x) (hclos : closureFor scope env = pure cl) (hkind : scope.kind = .function) (hnames : ∀ y ∈ scope.names, y.2 = .local → scope.names.lookup y.1 = some .local) (hcn : cellNames scope.names = cn)
    (h : wpV c A (eval iter env) (fun v s => iterV c A v (fun it s => ∃ ia H, it = .ref ia ∧ St c H s ∧ ∀ acc L as s, as.length = cn.length → St c (cellsH as ((L, .ns []) :: (acc, .list []) :: H)) s →
      iterV c A it (fun it' s' => it' = it ∧ s' = s) s ∧
      compV c A elt x px iter ifs scope pos it acc (Env.mk (relabel scope env) L env.globals (zipC cn as cl) env.qual none env.code env.frame env.builtins) (fun s => ∀ y, VR (.ref acc) y → wpU c A (storeName env t y) (endV c L fun s => Q .next s) s) s) s) s) :
    wpS c A (exec (.Assign [.Name t pt] (.ListComp elt [⟨.Name x px, iter, ifs, 0⟩] scope pos) pa) env) Q s := by
  unfold wpS
  rw [exec_Assign_Name_used _ _ _ _ hsw, arm_evalThenUse_ListComp]
  refine wpAny_bind (wpAny_standAt (wpAny_bind (wpAny_bind ?_)))
  refine wpAny_mono (comp_core (use := some (assign (.Name t pt) env)) (QQ := fun _ s => Q .next s) hs hclos hkind hnames hcn (wpAny_mono h (fun xv s₁ ⟨v, rv, h₁⟩ => ⟨v, rv, fun y ry => wpAny_mono (h₁ y ry) (fun itv s₂ ⟨it, ri, ia, H, ei, S, h₂⟩ => ⟨it, ri, ia, H, ei, S, fun acc L as s hl S' => ⟨(h₂ acc L as s hl S').1, fun y ry => codeAny_mono ((h₂ acc L as s hl S').2 y ry) fun r s' q => ?_⟩⟩) fun _ _ e => e⟩) fun _ _ e => e)) (fun _ _ q => wpAny_pure (wpAny_pure ⟨.next, rfl, q⟩)) fun _ _ e => e
  cases r with
  | ok f => exact wpAny_assign_Name (wpAny_mono (q _ rfl) (fun _ s'' q' => end_run G q') fun _ _ e => e)
  | error e => exact q
end
end Mine
end

section
open PySem PySem.W PySem.Calls PyProof.Rows PySem.SeqAt
set_option Elab.async false
set_option maxRecDepth 100000
set_option linter.unusedVariables false
namespace Mine
section
variable {c : Cx} {A : Around} {s : Shared} {env : Env} {H H' : List (Addr × O)} {Q : V → Shared → Prop}

theorem w_bi0 {id : String} {args : List Expr} {pos : Pos} (h : argV c A pos args env (fun vs s => callV c A (.bi id) vs Q s) s) : cwV c A pos (.bi id) [] args env Q s := w_bi h
theorem w_ty0 {n : String} {args : List Expr} {pos : Pos} (h : argV c A pos args env (fun vs s => callV c A (.ty n) vs Q s) s) : cwV c A pos (.ty n) [] args env Q s := w_ty h
theorem w_fn0 {a : Addr} {args : List Expr} {pos : Pos} (h : argV c A pos args env (fun vs s => FnAt s.heap a ∧ callV c A (.ref a) vs Q s) s) : cwV c A pos (.ref a) [] args env Q s := w_fn h
theorem w_bi1 {id : String} {v : V} {args : List Expr} {pos : Pos} (h : argV c A pos args env (fun vs s => callV c A (.bi id) (v :: vs) Q s) s) : cwV c A pos (.bi id) [v] args env Q s := w_bi h
theorem w_fn1 {a : Addr} {v : V} {args : List Expr} {pos : Pos} (h : argV c A pos args env (fun vs s => FnAt s.heap a ∧ callV c A (.ref a) (v :: vs) Q s) s) : cwV c A pos (.ref a) [v] args env Q s := w_fn h

/-- a call of an inner def -/
theorem call_clo {k : Nat} {f : Addr} {d : Option Addr} {name qual : Str} {params : Arguments} {body : List Stmt} {sc : Scope} {cl : List (Str × Addr)} {dv kv doc pm cd ct : Value} {an : Option Addr} {vs : List V} {bs : List (Str × V)} {cn : List Str}
    (G : Good c) (S : St c H s) (R : Room (k + 1) A) (hm : (f, O.clo ⟨name, qual, params, .stmts body, sc, mainGlobals, cl, dv, kv, doc, pm, an, cd, ct, builtinsNs⟩ d) ∈ H)
    (hb : ∀ xs, VRs vs xs → ∃ binds, bindArgs ⟨name, qual, params, .stmts body, sc, mainGlobals, cl, dv, kv, doc, pm, an, cd, ct, builtinsNs⟩ ⟨xs, []⟩ = pure binds ∧ VRb bs binds)
    (hco : sc.isCoroutine = false) (hgen : sc.isGenerator = false) (hcn : cellNames sc.names = cn)
    (h : ∀ L as s A, Room k A → as.length = cn.length → St c (cellsH as ((L, .ns []) :: H)) s →
      bindV c A (Env.mk sc L mainGlobals (zipC cn as cl) (qual ++ ".<locals>.") (some f) cd (some L) builtinsNs) bs
        (fun s => (∃ H₂, St c H₂ s) ∧ ∀ A, Room k A → wpS c A (execs body (Env.mk sc L mainGlobals (zipC cn as cl) (qual ++ ".<locals>.") (some f) cd (some L) builtinsNs)) (retF Q) s) s) :
    callV c A (.ref f) vs Q s := by
  obtain ⟨co, g, e⟩ := S.st.own _ hm
  cases (show co = _ from e)
  obtain ⟨Z, hZ, hT, hC⟩ := S.st.fz
  obtain ⟨a, ea, o, fs, t, hz, hd, hq⟩ := hC _ _ _ hm
  exact call_fn G S R g ⟨a, o, fs, t, ea, (hZ _ hz).1, hd, hq⟩ hb hco hgen hcn h
theorem fn_clo {f : Addr} {fd : FuncData} {d : Option Addr} (S : St c H s) (hm : (f, O.clo fd d) ∈ H) : FnAt s.heap f := by
  obtain ⟨co, g, e⟩ := S.st.own _ hm
  cases (show co = _ from e)
  exact ⟨_, fd, g, rfl⟩

theorem b_nil {env : Env} {Q : Shared → Prop} (h : Q s) : bindV c A env [] Q s := h
theorem b_cons {env : Env} {x : Str} {v : V} {r : List (Str × V)} {Q : Shared → Prop} (h : ∀ y, VR v y → wpU c A (storeName env x y) (fun s => bindV c A env r Q s) s) : bindV c A env ((x, v) :: r) Q s := h
theorem as_nil {env : Env} {Q : Shared → Prop} (h : Q s) : asgV c A env [] [] Q s := h
theorem as_cons {env : Env} {x : Str} {p : Pos} {v : V} {es : List Expr} {vs : List V} {Q : Shared → Prop} (h : ∀ y, VR v y → wpU c A (storeName env x y) (fun s => asgV c A env es vs Q s) s) : asgV c A env (.Name x p :: es) (v :: vs) Q s := h

theorem nn {x : Str} {m : List (Str × V)} (h : (m.any fun p => p.1 == x) = false) : x ∉ m.map (·.1) := by
  intro q
  obtain ⟨p, hp, e⟩ := List.mem_map.mp q
  have : (m.any fun p => p.1 == x) = true := List.any_eq_true.mpr ⟨p, hp, by simp [e]⟩
  rw [h] at this; cases this

inductive AddL (x : Str) (v : V) : List (Str × V) → List (Str × V) → Prop
  | nil : AddL x v [] [(x, v)]
  | cons {p r r'} : AddL x v r r' → AddL x v (p :: r) (p :: r')
theorem AddL.eq {x : Str} {v : V} {m m' : List (Str × V)} (h : AddL x v m m') : m' = m ++ [(x, v)] := by
  induction h with
  | nil => rfl
  | cons _ ih => rw [ih]; rfl
theorem fn_cloE {f : Addr} {o : O} {fd : FuncData} {d : Option Addr} (e : o = O.clo fd d) (S : St c H s) (hm : (f, o) ∈ H) : FnAt s.heap f := fn_clo S (e ▸ hm)

noncomputable def setV (c : Cx) (A : Around) (ov iv v : V) (Q : Shared → Prop) (s : Shared) : Prop := ∀ x y z, VR ov x → VR iv y → VR v z → wpU c A (setItem x y z) Q s
theorem s_AssSub {o i : Expr} {pos' pos : Pos} {value : Expr} {Q : F → Shared → Prop} (hs : swapsWith value (some (.Subscript o i pos')) pos.line env = pure false)
    (h : wpV c A (eval value env) (fun v s => wpV c A (eval o env) (fun ov s => wpV c A (eval i env) (fun iv s => setV c A ov iv v (fun s => Q .next s) s) s) s) s) :
    wpS c A (exec (.Assign [.Subscript o i pos'] value pos) env) Q s := s_AssignSub hs h
theorem set_at {a : Addr} {k : Int} {xs : List V} {v : V} {Q : Shared → Prop} (G : Good c) (S : St c H s) (u : UpdH a (.list xs) (.list (xs.set k.toNat v)) H H') (h0 : 0 ≤ k) (h1 : k < xs.length) (h2 : k < 2 ^ 62)
    (h : ∀ s, St c H' s → Q s) : setV c A (.ref a) (.int k) v Q s := fun x y z rx ry rz => set_list G S u h0 h1 h2 rx ry rz h
end
end Mine
end

section
open PySem PySem.W PySem.Calls PyProof.Rows PySem.SeqAt
set_option Elab.async false
set_option maxRecDepth 100000
set_option linter.unusedVariables false
namespace Mine
section
variable {c : Cx} {A : Around} {s : Shared} {env : Env} {H H' : List (Addr × O)}

noncomputable def whileV (c : Cx) (A : Around) (test : Expr) (body : List Stmt) (env : Env) (Q : F → Shared → Prop) (s : Shared) : Prop :=
  codeAny c.M A (.whileLoop test body [] env) (fun r s' => match r with | .ok f => ∃ g, FR g f ∧ Q g s' | .error e => cameBackBy c.M A env NoE e s') s
theorem s_Whl {test : Expr} {body : List Stmt} {pos : Pos} {Q : F → Shared → Prop} (h : whileV c A test body env Q s) : wpS c A (exec (.While test body [] pos) env) Q s := wpAny_While h
theorem whl_step {test : Expr} {body : List Stmt} {Q : F → Shared → Prop}
    (h : wpB c A (isTrue test env (eval test env)) (fun b s => (b = true → wpS c A (execs body env) (loopF (fun s => whileV c A test body env Q s) Q) s) ∧ (b = false → Q .next s)) s) : whileV c A test body env Q s := by
  refine codeAny_of_tree ?_
  show wpAny c.M A ((whileTurn test body [] env).onRaise (fun x => do noteFrame x env; theTreesLotGoes x)) _ _ s
  refine wpAny_noted ?_
  simp only [whileTurn]
  refine wpAny_bind (wpAny_mono h (fun b s₂ h₂ => ?_) fun _ _ h' => h'.elim)
  cases b with
  | false =>
    simp only [Bool.false_eq_true, if_false]
    exact wpAny_bind (wpAny_execs_nil (wpAny_pure ⟨.next, rfl, h₂.2 rfl⟩))
  | true =>
    simp only [if_true]
    refine wpAny_bind (wpAny_mono (h₂.1 rfl) (fun f s₃ ⟨g, r, q⟩ => ?_) fun _ _ h' => h'.elim)
    cases g with
    | next => cases r; exact wpAny_pure ⟨rfl, q⟩
    | cont => cases r; exact wpAny_pure ⟨rfl, q⟩
    | brk => cases r; exact wpAny_pure ⟨.next, rfl, q⟩
    | ret v => obtain ⟨x, rfl, rx⟩ := r; exact wpAny_pure ⟨.ret v, ⟨x, rfl, rx⟩, q⟩
theorem for_step {x : Str} {px : Pos} {it : V} {body : List Stmt} {Q : F → Shared → Prop}
    (h : nextV c A it (fun r s => match r with
      | none => Q .next s
      | some v => ∀ y, VR v y → wpU c A (storeName env x y) (fun s => wpS c A (execs body env) (loopF (fun s => forV c A (.Name x px) it body env Q s) Q) s) s) s) (hi : ∃ a, it = .ref a) :
    forV c A (.Name x px) it body env Q s := by
  obtain ⟨a, rfl⟩ := hi
  rintro _ rfl
  refine codeAny_of_tree ?_
  show wpAny c.M A ((forTurn (.Name x px) (.ref a) body [] env).onRaise (fun x => do noteFrame x env; theTreesLotGoes x)) _ _ s
  refine wpAny_noted ?_
  simp only [forTurn]
  refine wpAny_bind (wpAny_standAt (wpAny_bind (wpAny_onRaise (wpAny_mono (h _ rfl) (fun r s₁ h₁ => ?_) fun _ _ h' => h'.elim))))
  cases r with
  | none => exact wpAny_pure ⟨rfl, codeAny_block (wpAny_execs_nil ⟨.next, rfl, h₁⟩)⟩
  | some y =>
    obtain ⟨v, rv, q⟩ := h₁
    refine wpAny_bind (wpAny_of_eq rfl ?_)
    refine wpAny_bind (wpAny_assign_Name (wpAny_mono (q y rv) (fun _ s₂ h₂ => wpAny_bind (wpAny_mono h₂ (fun f s₃ ⟨g, r, q⟩ => ?_) fun _ _ h' => h'.elim)) fun _ _ h' => h'.elim))
    cases g with
    | next => cases r; exact wpAny_pure ⟨rfl, q _ rfl⟩
    | cont => cases r; exact wpAny_pure ⟨rfl, q _ rfl⟩
    | brk => cases r; exact wpAny_pure ⟨.next, rfl, q⟩
    | ret v => obtain ⟨x, rfl, rx⟩ := r; exact wpAny_pure ⟨.ret v, ⟨x, rfl, rx⟩, q⟩
theorem comp_step0 {elt iter : Expr} {x : Str} {px pos : Pos} {scope : Scope} {it acc : Addr} {cenv : Env} {K : Shared → Prop}
    (h : nextV c A (.ref it) (fun r s => match r with
      | none => K s
      | some v => ∀ y, VR v y → wpU c A (storeName cenv x y) (fun s => wpV c A (eval elt cenv) (fun w s => callV c A (.bi "list.append") [.ref acc, w] (fun _ s => compV c A elt x px iter [] scope pos (.ref it) acc cenv K s) s) s) s) s) :
    compV c A elt x px iter [] scope pos (.ref it) acc cenv K s := by
  rintro _ rfl
  refine codeAny_of_tree ?_
  show wpAny c.M A ((compTurn (.ListComp elt [⟨.Name x px, iter, [], 0⟩] scope pos) 0 (.ref it) (.ref acc) cenv).onRaise (fun x => do noteFrame x cenv; theTreesLotGoes x)) _ _ s
  refine wpAny_noted ?_
  rw [compTurn_list]
  refine wpAny_bind (wpAny_standAt (wpAny_bind (wpAny_mono (h _ rfl) (fun r s₁ h₁ => ?_) fun _ _ h' => h'.elim)))
  cases r with
  | none => exact wpAny_pure h₁
  | some y =>
    obtain ⟨v, rv, q⟩ := h₁
    refine wpAny_bind (wpAny_of_eq rfl ?_)
    refine wpAny_bind (wpAny_assign_Name (wpAny_mono (q y rv) (fun _ s₂ h₂ => wpAny_bind (wpAny_tests_nil ?_)) fun _ _ h' => h'.elim))
    rw [if_pos rfl]
    refine wpAny_bind (wpAny_bind (wpAny_mono h₂ (fun w s₃ ⟨wv, rw', q⟩ => wpAny_bind (wpAny_mono (q _ _ rfl ⟨rfl, rw', trivial⟩) (fun _ _ ⟨_, _, q⟩ => wpAny_pure (wpAny_pure ⟨rfl, q _ rfl⟩)) fun _ _ h' => h'.elim)) fun _ _ h' => h'.elim))
theorem k_bits4 {Q : V → Shared → Prop} (S : St c H s) (h : ∀ s, St c H s → Q (.int 3) s) : callV c A (.bi "int.bit_length") [.int 4] Q s :=
  k_bits S fun s S => by rw [show ((Builtin.Int.intBits 4 : Nat) : Int) = 3 from by decide +kernel]; exact h s S

theorem whl_inv {test : Expr} {body : List Stmt} {Q : F → Shared → Prop} (I : Nat → Shared → Prop) (n : Nat) (h0 : I n s)
    (turn : ∀ n s, I n s → wpB c A (isTrue test env (eval test env)) (fun b s => (b = true → wpS c A (execs body env) (loopF (fun s => ∃ m, m < n ∧ I m s) Q) s) ∧ (b = false → Q .next s)) s) : whileV c A test body env Q s := by
  induction n using Nat.strongRecOn generalizing s with
  | ind n ih =>
    refine whl_step (wpAny_mono (turn n s h0) (fun b s₂ h₂ => ⟨fun e => ?_, h₂.2⟩) fun _ _ e => e)
    refine wpAny_mono (h₂.1 e) (fun f s₃ ⟨g, r, q⟩ => ⟨g, r, ?_⟩) fun _ _ e => e
    cases g with
    | next => obtain ⟨m, hm, hI⟩ := q; exact ih m hm hI
    | cont => obtain ⟨m, hm, hI⟩ := q; exact ih m hm hI
    | brk => exact q
    | ret v => exact q
-- shapes
theorem canLay_ints : ∀ xs : List Int, PyData.canLayAll0 ((xs.map V.int).map PD) = true
  | [] => rfl
  | x :: xs => by
    show (true && PyData.canLayAll0 ((xs.map V.int).map PD)) = true
    rw [canLay_ints xs]; rfl
theorem canLay_bools : ∀ xs : List Bool, PyData.canLayAll0 ((xs.map V.bool).map PD) = true
  | [] => rfl
  | x :: xs => by
    show (true && PyData.canLayAll0 ((xs.map V.bool).map PD)) = true
    rw [canLay_bools xs]; rfl

theorem whl_J {test : Expr} {body : List Stmt} {Q : F → Shared → Prop} (I : Nat → Shared → Prop) (J : Shared → Prop) (n : Nat) (h0 : I n s)
    (turn : ∀ n s, I n s → wpB c A (isTrue test env (eval test env)) (fun b s => (b = true → wpS c A (execs body env) (loopF (fun s => ∃ m, m < n ∧ I m s) Q) s) ∧ (b = false → J s)) s) (fin : ∀ s, J s → Q .next s) : whileV c A test body env Q s :=
  whl_inv I n h0 fun n s hI => wpAny_mono (turn n s hI) (fun b s h => ⟨h.1, fun e => fin _ (h.2 e)⟩) fun _ _ e => e
end
end Mine
end

section
open PySem PySem.W PySem.Calls PyProof.Rows PySem.SeqAt
set_option Elab.async false
set_option maxRecDepth 100000
set_option linter.unusedVariables false
namespace Mine
noncomputable def OkV : V → Prop
  | .none | .bool _ | .int _ => True
  | .str x => x.all (· < 0x110000) = true
  | _ => False
theorem OkV.flat {v : V} (h : OkV v) : Flat v := by cases v <;> first | exact trivial | exact h.elim
theorem canLay_ok {v : V} (h : OkV v) : PyData.canLay0 (PD v) = true := by
  cases v with
  | none => simp [PD, PyData.canLay0]
  | bool b => simp [PD, PyData.canLay0]
  | int i => simp [PD, PyData.canLay0]
  | str x => simp only [PD, PyData.canLay0, PyData.strOk]; have : x.all (· < 0x110000) = true := h; simpa using this
  | ref _ => exact h.elim
  | ty _ => exact h.elim
  | bi _ => exact h.elim
theorem depth_ok {v : V} (h : OkV v) : PyData.depth (PD v) = 0 := by
  cases v with
  | none => simp [PD, PyData.depth]
  | bool b => simp [PD, PyData.depth]
  | int i => simp [PD, PyData.depth]
  | str x => simp [PD, PyData.depth]
  | ref _ => exact h.elim
  | ty _ => exact h.elim
  | bi _ => exact h.elim
theorem canLay_all : ∀ {xs : List V}, (∀ v ∈ xs, OkV v) → PyData.canLayAll0 (xs.map PD) = true ∧ PyData.depthAll (xs.map PD) = 0
  | [], _ => by simp [PyData.canLayAll0, PyData.depthAll]
  | x :: xs, h => by
    obtain ⟨a, b⟩ := canLay_all (xs := xs) fun v hv => h v (.tail _ hv)
    simp [PyData.canLayAll0, PyData.depthAll, a, b, canLay_ok (h x (.head _)), depth_ok (h x (.head _))]
theorem shaped_flat {xs : List V} (h : ∀ v ∈ xs, OkV v) : shaped (.list (xs.map PD)) = true := by
  obtain ⟨a, b⟩ := canLay_all h
  simp [shaped, PyData.canLay0, PyData.depth, a, b]
theorem canLay_nest : ∀ {xss : List (List V)}, (∀ xs ∈ xss, ∀ v ∈ xs, OkV v) → PyData.canLayAll0 (xss.map fun xs => .list (xs.map PD)) = true ∧ PyData.depthAll (xss.map fun xs => .list (xs.map PD)) ≤ 1
  | [], _ => by simp [PyData.canLayAll0, PyData.depthAll]
  | xs :: xss, h => by
    obtain ⟨a, b⟩ := canLay_nest (xss := xss) fun v hv => h v (.tail _ hv)
    obtain ⟨a', b'⟩ := canLay_all (h xs (.head _))
    simp [PyData.canLayAll0, PyData.depthAll, PyData.canLay0, PyData.depth, a, a', b']
    omega
theorem shaped_nest {xss : List (List V)} (h : ∀ xs ∈ xss, ∀ v ∈ xs, OkV v) : shaped (.list (xss.map fun xs => .list (xs.map PD))) = true := by
  obtain ⟨a, b⟩ := canLay_nest h
  simp [shaped, PyData.canLay0, PyData.depth, a]
  omega
theorem eqv_ints : ∀ xs ys : List Int, PyData.eqvAll ((xs.map V.int).map PD) ((ys.map V.int).map PD) = decide (xs = ys)
  | [], [] => by simp [PyData.eqvAll]
  | x :: xs, y :: ys => by
    have := eqv_ints xs ys
    simp only [List.map_cons, PyData.eqvAll, PD, PyData.eqv, this]
    by_cases q : x = y <;> by_cases q' : xs = ys <;> simp [q, q']
  | [], _ :: _ => by simp [PyData.eqvAll]
  | _ :: _, [] => by simp [PyData.eqvAll]
theorem eqv_bools : ∀ xs ys : List Bool, PyData.eqvAll ((xs.map V.bool).map PD) ((ys.map V.bool).map PD) = decide (xs = ys)
  | [], [] => by simp [PyData.eqvAll]
  | x :: xs, y :: ys => by
    have := eqv_bools xs ys
    simp only [List.map_cons, PyData.eqvAll, PD, PyData.eqv, this]
    by_cases q : x = y <;> by_cases q' : xs = ys <;> simp [q, q']
  | [], _ :: _ => by simp [PyData.eqvAll]
  | _ :: _, [] => by simp [PyData.eqvAll]
theorem eqv_strs : ∀ xs ys : List (List Nat), PyData.eqvAll ((xs.map V.str).map PD) ((ys.map V.str).map PD) = decide (xs = ys)
  | [], [] => by simp [PyData.eqvAll]
  | x :: xs, y :: ys => by
    have := eqv_strs xs ys
    simp only [List.map_cons, PyData.eqvAll, PD, PyData.eqv, this, str_beq]
    by_cases q : x = y <;> by_cases q' : xs = ys <;> simp [q, q']
  | [], _ :: _ => by simp [PyData.eqvAll]
  | _ :: _, [] => by simp [PyData.eqvAll]
theorem eqv_nest : ∀ xs ys : List (List Int), PyData.eqvAll ((xs.map fun r => r.map V.int).map fun r => .list (r.map PD)) ((ys.map fun r => r.map V.int).map fun r => .list (r.map PD)) = decide (xs = ys)
  | [], [] => by simp [PyData.eqvAll]
  | x :: xs, y :: ys => by
    have := eqv_nest xs ys
    simp only [List.map_cons, PyData.eqvAll, PyData.eqv, this, eqv_ints]
    by_cases q : x = y <;> by_cases q' : xs = ys <;> simp [q, q']
  | [], _ :: _ => by simp [PyData.eqvAll]
  | _ :: _, [] => by simp [PyData.eqvAll]
theorem ok_ints (xs : List Int) : ∀ v ∈ xs.map V.int, OkV v := fun v hv => by
  obtain ⟨x, _, rfl⟩ := List.mem_map.mp hv; exact trivial
theorem ok_bools (xs : List Bool) : ∀ v ∈ xs.map V.bool, OkV v := fun v hv => by
  obtain ⟨x, _, rfl⟩ := List.mem_map.mp hv; exact trivial
section
variable {c : Cx} {A : Around} {s : Shared} {Q : V → Shared → Prop}
theorem c_ieq {a b : Addr} {xs ys : List Int} (u : A.units + 64 < cLine) (ha : Holds s.heap a (.list (xs.map .int))) (hb : Holds s.heap b (.list (ys.map .int))) (h : Q (.bool (decide (xs = ys))) s) : cmpV c A .Eq (.ref a) (.ref b) Q s :=
  c_leq u (fun v hv => (ok_ints xs v hv).flat) (fun v hv => (ok_ints ys v hv).flat) ha hb (shaped_flat (ok_ints xs)) (shaped_flat (ok_ints ys)) (by rw [eqv_ints]; exact h)
theorem c_bbeq {a b : Addr} {xs ys : List Bool} (u : A.units + 64 < cLine) (ha : Holds s.heap a (.list (xs.map .bool))) (hb : Holds s.heap b (.list (ys.map .bool))) (h : Q (.bool (decide (xs = ys))) s) : cmpV c A .Eq (.ref a) (.ref b) Q s :=
  c_leq u (fun v hv => (ok_bools xs v hv).flat) (fun v hv => (ok_bools ys v hv).flat) ha hb (shaped_flat (ok_bools xs)) (shaped_flat (ok_bools ys)) (by rw [eqv_bools]; exact h)
theorem c_sne {a b : Addr} {xs ys : List (List Nat)} (u : A.units + 64 < cLine) (ha : Holds s.heap a (.list (xs.map .str))) (hb : Holds s.heap b (.list (ys.map .str))) (ox : ∀ v ∈ xs.map V.str, OkV v) (oy : ∀ v ∈ ys.map V.str, OkV v) (h : Q (.bool (!decide (xs = ys))) s) : cmpV c A .NotEq (.ref a) (.ref b) Q s :=
  c_lne u (fun v hv => (ox v hv).flat) (fun v hv => (oy v hv).flat) ha hb (shaped_flat ox) (shaped_flat oy) (by rw [eqv_strs]; exact h)
theorem c_inne {a b : Addr} {vs ws : List V} {xs ys : List (List Int)} (u : A.units + 64 < cLine) (ha : Holds s.heap a (.list vs)) (na : NestR s.heap vs (xs.map fun r => r.map V.int)) (hb : Holds s.heap b (.list ws)) (nb : NestR s.heap ws (ys.map fun r => r.map V.int)) (h : Q (.bool (!decide (xs = ys))) s) : cmpV c A .NotEq (.ref a) (.ref b) Q s :=
  c_nne u ha na hb nb (shaped_nest fun r hr => by obtain ⟨x, _, rfl⟩ := List.mem_map.mp hr; exact ok_ints x) (shaped_nest fun r hr => by obtain ⟨x, _, rfl⟩ := List.mem_map.mp hr; exact ok_ints x) (by rw [eqv_nest]; exact h)
end
end Mine
end

section
open PySem PySem.W PySem.Calls PyProof.Rows PySem.SeqAt
set_option Elab.async false
set_option maxRecDepth 100000
set_option linter.unusedVariables false
namespace Mine
noncomputable def relabelS (scope sc0 : Scope) : Scope := relabel scope (Env.mk sc0 0 0 [] (Str.ofString "") none .none none 0)
noncomputable def One (x : Str) (m : List (Str × V)) : Prop := m = [] ∨ ∃ v, m = [(x, v)]
section
variable {c : Cx} {A : Around} {s : Shared} {H H' : List (Addr × O)} {sc : Scope} {L g : Addr} {cl : List (Str × Addr)} {qn : Str} {fu : Option Addr} {cd : Value} {fr : Option Addr} {bb : Addr}
theorem sn_one {x : Str} {m : List (Str × V)} {v : V} {y : Value} {Q : Shared → Prop} (G : Good c) (S : St c H s) (r : VR v y) (hx : sc.names.lookup x = some .local) (o : One x m) (u : UpdH L (O.ns m) (O.ns [(x, v)]) H H')
    (hk : sc.kind = .function) (h : ∀ s, St c H' s → Q s) : wpU c A (storeName (Env.mk sc L g cl qn fu cd fr bb) x y) Q s := by
  refine sn_local G S r hx u ?_ hk h
  rcases o with rfl | ⟨v0, rfl⟩
  · exact .inr ⟨by simp, rfl⟩
  · exact .inl .head
/-- a comprehension over a list, each item by itself -/
theorem comp_map {elt iter : Expr} {x : Str} {px pos : Pos} {scope : Scope} {it acc d : Addr} {K : Shared → Prop} {xs : List V} (f : V → V) (G : Good c) (hh : A.handled = none) (hk : sc.kind = .function) (hx : sc.names.lookup x = some .local)
    (hd : (d, O.list xs) ∈ H) (hl : xs.length ≤ 1000000) (S : St c ((L, .ns []) :: (acc, .list []) :: (it, .liter d 0) :: H) s)
    (helt : ∀ v ∈ xs, ∀ ys i s Q', St c ((L, .ns [(x, v)]) :: (acc, .list ys) :: (it, .liter d i) :: H) s → (∀ s, St c ((L, .ns [(x, v)]) :: (acc, .list ys) :: (it, .liter d i) :: H) s → Q' (f v) s) → wpV c A (eval elt (Env.mk sc L g cl qn fu cd fr bb)) Q' s)
    (fin : ∀ s m, St c ((L, .ns m) :: (acc, .list (xs.map f)) :: H) s → K s) : compV c A elt x px iter [] scope pos (.ref it) acc (Env.mk sc L g cl qn fu cd fr bb) K s := by
  refine comp_inv (fun n s => ∃ i m, n = xs.length - i ∧ i ≤ xs.length ∧ One x m ∧ St c ((L, .ns m) :: (acc, .list ((xs.take i).map f)) :: (it, .liter d i) :: H) s) xs.length ⟨0, [], by simp, by simp, .inl rfl, S⟩ ?_
  rintro n s ⟨i, m, e1, e2, o, S'⟩
  by_cases q : i < xs.length
  · have ei : xs[i]? = some xs[i] := List.getElem?_eq_getElem q
    refine nx_list (xs := xs) (v := xs[i]) G S' (.tail (.tail .head)) (S'.has (.tail _ (.tail _ (.tail _ hd)))) ei ?_
    intro s S' y r
    refine sn_one G S' r hx o .head hk ?_
    intro s S'
    refine helt xs[i] (List.getElem_mem q) _ _ _ _ S' ?_
    intro s S'
    refine k_append G S' (.tail .head) (by simp; omega) ?_
    intro s S'
    refine ⟨xs.length - (i + 1), by omega, i + 1, [(x, xs[i])], rfl, by omega, .inr ⟨_, rfl⟩, ?_⟩
    have : (xs.take (i + 1)).map f = (xs.take i).map f ++ [f xs[i]] := by rw [List.take_add_one, ei, List.map_append]; rfl
    rw [this]; exact S'
  · have ei : i = xs.length := by omega
    subst ei
    refine nx_list_fin (xs := xs) G hh S' (.tail (.tail .head)) (S'.has (.tail _ (.tail _ (.tail _ hd)))) (Nat.le_refl _) ?_
    intro s S'
    rw [List.take_length] at S'
    exact fin s m S'
theorem comp_mapR {elt iter : Expr} {x : Str} {px pos : Pos} {scope : Scope} {it acc : Addr} {K : Shared → Prop} {n : Nat} (f : Nat → V) (G : Good c) (hh : A.handled = none) (hk : sc.kind = .function) (hx : sc.names.lookup x = some .local)
    (hl : n ≤ 1000000) (S : St c ((L, .ns []) :: (acc, .list []) :: (it, .raw (rit 0 n)) :: H) s)
    (helt : ∀ i, i < n → ∀ ys o s Q', St c ((L, .ns [(x, .int i)]) :: (acc, .list ys) :: (it, o) :: H) s → (∀ s, St c ((L, .ns [(x, .int i)]) :: (acc, .list ys) :: (it, o) :: H) s → Q' (f i) s) → wpV c A (eval elt (Env.mk sc L g cl qn fu cd fr bb)) Q' s)
    (fin : ∀ s m, St c ((L, .ns m) :: (acc, .list ((List.range n).map f)) :: H) s → K s) : compV c A elt x px iter [] scope pos (.ref it) acc (Env.mk sc L g cl qn fu cd fr bb) K s := by
  refine comp_inv (fun k s => ∃ i m, k = n - i ∧ i ≤ n ∧ One x m ∧ St c ((L, .ns m) :: (acc, .list ((List.range i).map f)) :: (it, .raw (rit (i : Nat) ((n : Int) - (i : Nat)))) :: H) s) n ⟨0, [], by simp, by simp, .inl rfl, by simpa using S⟩ ?_
  rintro k s ⟨i, m, e1, e2, o, S'⟩
  by_cases q : i < n
  · refine nx_range G S' (.tail (.tail .head)) (by omega) ?_
    intro s S' y r
    refine sn_one G S' r hx o .head hk ?_
    intro s S'
    refine helt i q _ _ _ _ S' ?_
    intro s S'
    refine k_append G S' (.tail .head) (by simp; omega) ?_
    intro s S'
    refine ⟨n - (i + 1), by omega, i + 1, [(x, .int i)], rfl, by omega, .inr ⟨_, rfl⟩, ?_⟩
    have e1 : (List.range (i + 1)).map f = (List.range i).map f ++ [f i] := by rw [List.range_succ]; simp
    have e2 : ((i + 1 : Nat) : Int) = (i : Int) + 1 := by omega
    have e3 : (n : Int) - ((i : Int) + 1) = (n : Int) - i - 1 := by omega
    rw [e1, e2, e3]; exact S'
  · have ei : i = n := by omega
    subst ei
    exact nx_range_fin G hh S' (.tail (.tail .head)) (by omega) fun s S' => fin s m S'
theorem comp_mapS {elt iter : Expr} {x : Str} {px pos : Pos} {scope : Scope} {it acc : Addr} {K : Shared → Prop} {xs : List Nat} (f : Nat → V) (G : Good c) (hh : A.handled = none) (hk : sc.kind = .function) (hx : sc.names.lookup x = some .local)
    (hl : xs.length ≤ 1000000) (S : St c ((L, .ns []) :: (acc, .list []) :: (it, .siter xs 0) :: H) s)
    (helt : ∀ v ∈ xs, ∀ ys i s Q', St c ((L, .ns [(x, .str [v])]) :: (acc, .list ys) :: (it, .siter xs i) :: H) s → (∀ s, St c ((L, .ns [(x, .str [v])]) :: (acc, .list ys) :: (it, .siter xs i) :: H) s → Q' (f v) s) → wpV c A (eval elt (Env.mk sc L g cl qn fu cd fr bb)) Q' s)
    (fin : ∀ s m, St c ((L, .ns m) :: (acc, .list (xs.map f)) :: H) s → K s) : compV c A elt x px iter [] scope pos (.ref it) acc (Env.mk sc L g cl qn fu cd fr bb) K s := by
  refine comp_inv (fun n s => ∃ i m, n = xs.length - i ∧ i ≤ xs.length ∧ One x m ∧ St c ((L, .ns m) :: (acc, .list ((xs.take i).map f)) :: (it, .siter xs i) :: H) s) xs.length ⟨0, [], by simp, by simp, .inl rfl, S⟩ ?_
  rintro n s ⟨i, m, e1, e2, o, S'⟩
  by_cases q : i < xs.length
  · have ei : xs[i]? = some xs[i] := List.getElem?_eq_getElem q
    refine nx_str (d := xs[i]) G S' (.tail (.tail .head)) ei ?_
    intro s S' y r
    refine sn_one G S' r hx o .head hk ?_
    intro s S'
    refine helt xs[i] (List.getElem_mem q) _ _ _ _ S' ?_
    intro s S'
    refine k_append G S' (.tail .head) (by simp; omega) ?_
    intro s S'
    refine ⟨xs.length - (i + 1), by omega, i + 1, [(x, .str [xs[i]])], rfl, by omega, .inr ⟨_, rfl⟩, ?_⟩
    have : (xs.take (i + 1)).map f = (xs.take i).map f ++ [f xs[i]] := by rw [List.take_add_one, ei, List.map_append]; rfl
    rw [this]; exact S'
  · have ei : i = xs.length := by omega
    subst ei
    refine nx_str_end G hh S' (.tail (.tail .head)) (Nat.le_refl _) ?_
    intro s S'
    rw [List.take_length] at S'
    exact fin s m S'

variable {sc0 : Scope} {L0 : Addr} {cl0 : List (Str × Addr)}
theorem e_CompM {elt iter : Expr} {x : Str} {px pos : Pos} {ifs : List Expr} {scope : Scope} {cl : List (Str × Addr)} {cn : List Str} {Q : V → Shared → Prop} (G : Good c)
    (hs : ∀ x, foldedSetIterable iter (Env.mk sc0 L0 g cl0 qn fu cd fr bb) x = pure x) (hclos : closureFor scope (Env.mk sc0 L0 g cl0 qn fu cd fr bb) = pure cl) (hkind : scope.kind = .function) (hnames : ∀ y ∈ scope.names, y.2 = .local → scope.names.lookup y.1 = some .local) (hcn : cellNames scope.names = cn)
    (h : wpV c A (eval iter (Env.mk sc0 L0 g cl0 qn fu cd fr bb)) (fun v s => iterV c A v (fun it s => ∃ ia H, it = .ref ia ∧ St c H s ∧ ∀ acc L as s, as.length = cn.length → St c (cellsH as ((L, .ns []) :: (acc, .list []) :: H)) s →
      iterV c A it (fun it' s' => it' = it ∧ s' = s) s ∧
      compV c A elt x px iter ifs scope pos it acc (Env.mk (relabelS scope sc0) L g (zipC cn as cl) qn none cd fr bb) (endV c L fun s => Q (.ref acc) s) s) s) s) :
    wpV c A (eval (.ListComp elt [⟨.Name x px, iter, ifs, 0⟩] scope pos) (Env.mk sc0 L0 g cl0 qn fu cd fr bb)) Q s := e_Comp G hs hclos hkind hnames hcn h
theorem s_AssignCompM {elt iter : Expr} {x t : Str} {px pos pt pa : Pos} {ifs : List Expr} {scope : Scope} {cl : List (Str × Addr)} {cn : List Str} {Q : F → Shared → Prop} (G : Good c)
    (hsw : swapsWith (.ListComp elt [⟨.Name x px, iter, ifs, 0⟩] scope pos) (some (.Name t pt)) pa.line (Env.mk sc0 L0 g cl0 qn fu cd fr bb) = pure true)
    (hs : ∀ x, foldedSetIterable iter (Env.mk sc0 L0 g cl0 qn fu cd fr bb) x = pure x) (hclos : closureFor scope (Env.mk sc0 L0 g cl0 qn fu cd fr bb) = pure cl) (hkind : scope.kind = .function) (hnames : ∀ y ∈ scope.names, y.2 = .local → scope.names.lookup y.1 = some .local) (hcn : cellNames scope.names = cn)
    (h : wpV c A (eval iter (Env.mk sc0 L0 g cl0 qn fu cd fr bb)) (fun v s => iterV c A v (fun it s => ∃ ia H, it = .ref ia ∧ St c H s ∧ ∀ acc L as s, as.length = cn.length → St c (cellsH as ((L, .ns []) :: (acc, .list []) :: H)) s →
      iterV c A it (fun it' s' => it' = it ∧ s' = s) s ∧
      compV c A elt x px iter ifs scope pos it acc (Env.mk (relabelS scope sc0) L g (zipC cn as cl) qn none cd fr bb) (fun s => ∀ y, VR (.ref acc) y → wpU c A (storeName (Env.mk sc0 L0 g cl0 qn fu cd fr bb) t y) (endV c L fun s => Q .next s) s) s) s) s) :
    wpS c A (exec (.Assign [.Name t pt] (.ListComp elt [⟨.Name x px, iter, ifs, 0⟩] scope pos) pa) (Env.mk sc0 L0 g cl0 qn fu cd fr bb)) Q s := s_AssignComp G hsw hs hclos hkind hnames hcn h
end
end Mine
end

section
open PySem PySem.W PySem.Calls PyProof.Rows PySem.SeqAt
set_option Elab.async false
set_option maxRecDepth 100000
set_option linter.unusedVariables false
namespace Mine
section
variable {c : Cx} {A : Around} {s : Shared} {H H' : List (Addr × O)} {sc : Scope} {L g : Addr} {cl : List (Str × Addr)} {qn : Str} {fu : Option Addr} {cd : Value} {fr : Option Addr} {bb : Addr}
/-- a comprehension over a range that picks numbers -/
theorem comp_fltR {iter t : Expr} {x : Str} {px pos pe : Pos} {scope : Scope} {it acc : Addr} {K : Shared → Prop} {a : Int} {n : Nat} (p : Int → Bool) (G : Good c) (hh : A.handled = none) (hk : sc.kind = .function) (hx : sc.names.lookup x = some .local) (hdb : (x == ("__debug__" : Str)) = false)
    (hl : n ≤ 1000000) (S : St c ((L, .ns []) :: (acc, .list []) :: (it, .raw (rit a n)) :: H) s)
    (htest : ∀ i, i < n → ∀ ys o s Q', St c ((L, .ns [(x, .int (a + (i : Nat)))]) :: (acc, .list ys) :: (it, o) :: H) s → (∀ s, St c ((L, .ns [(x, .int (a + (i : Nat)))]) :: (acc, .list ys) :: (it, o) :: H) s → Q' (p (a + (i : Nat))) s) →
      wpB c A (isTrue t (Env.mk sc L g cl qn fu cd fr bb) (eval t (Env.mk sc L g cl qn fu cd fr bb))) Q' s)
    (fin : ∀ s m, St c ((L, .ns m) :: (acc, .list ((((List.range n).map fun i : Nat => a + (i : Int)).filter p).map V.int)) :: H) s → K s) : compV c A (.Name x pe) x px iter [t] scope pos (.ref it) acc (Env.mk sc L g cl qn fu cd fr bb) K s := by
  refine comp_inv1 (fun k s => ∃ i m, k = n - i ∧ i ≤ n ∧ One x m ∧ St c ((L, .ns m) :: (acc, .list ((((List.range i).map fun i : Nat => a + (i : Int)).filter p).map V.int)) :: (it, .raw (rit (a + (i : Nat)) ((n : Int) - (i : Nat)))) :: H) s) n ⟨0, [], by simp, by simp, .inl rfl, by simpa using S⟩ ?_
  rintro k s ⟨i, m, e1, e2, o, S'⟩
  by_cases q : i < n
  · refine nx_range G S' (.tail (.tail .head)) (by omega) ?_
    intro s S' y r
    refine sn_one G S' r hx o .head hk ?_
    intro s S'
    refine htest i q _ _ _ _ S' ?_
    intro s S'
    have e2' : a + ((i + 1 : Nat) : Int) = a + (i : Int) + 1 := by omega
    have e3 : (n : Int) - ((i + 1 : Nat) : Int) = (n : Int) - i - 1 := by omega
    refine ⟨fun hp => ?_, fun hp => ?_⟩
    · refine e_name (l_local S' hx (.head _) (.head _) hk ?_) hdb
      refine k_append G S' (.tail .head) ?_ ?_
      · rw [List.length_map]
        refine Nat.le_trans (List.length_filter_le _ _) ?_
        simp; omega
      intro s S'
      refine ⟨n - (i + 1), by omega, i + 1, [(x, .int (a + (i : Nat)))], rfl, by omega, .inr ⟨_, rfl⟩, ?_⟩
      have e1 : (((List.range (i + 1)).map fun i : Nat => a + (i : Int)).filter p).map V.int = (((List.range i).map fun i : Nat => a + (i : Int)).filter p).map V.int ++ [V.int (a + (i : Nat))] := by
        rw [List.range_succ, List.map_append, List.filter_append, List.map_append]
        simp [hp]
      rw [e1, e2', e3]; exact S'
    · refine ⟨n - (i + 1), by omega, i + 1, [(x, .int (a + (i : Nat)))], rfl, by omega, .inr ⟨_, rfl⟩, ?_⟩
      have e1 : (((List.range (i + 1)).map fun i : Nat => a + (i : Int)).filter p).map V.int = (((List.range i).map fun i : Nat => a + (i : Int)).filter p).map V.int := by
        rw [List.range_succ, List.map_append, List.filter_append, List.map_append]
        simp [hp]
      rw [e1, e2', e3]; exact S'
  · have ei : i = n := by omega
    subst ei
    exact nx_range_fin G hh S' (.tail (.tail .head)) (by omega) fun s S' => fin s m S'
end
end Mine
end

section
open PySem PySem.W PySem.Calls PyProof.Rows PySem.SeqAt
set_option Elab.async false
set_option maxRecDepth 100000
set_option linter.unusedVariables false
namespace Mine
/-- lists that stand at the addresses of ws -/
noncomputable def objs (f : Nat → List V) (ws : List Addr) : List (Addr × O) := ws.zipIdx.map fun p => (p.1, O.list (f p.2))
theorem objs_snoc (f : Nat → List V) (ws : List Addr) (a : Addr) : objs f (ws ++ [a]) = objs f ws ++ [(a, O.list (f ws.length))] := by
  simp [objs, List.zipIdx_append]
theorem objs_mem {f : Nat → List V} {ws : List Addr} {j : Nat} {a : Addr} (h : ws[j]? = some a) : (a, O.list (f j)) ∈ objs f ws :=
  List.mem_map.mpr ⟨(a, j), List.mem_zipIdx_iff_getElem?.mpr h, rfl⟩
theorem objs_nil (f : Nat → List V) : objs f [] = [] := rfl
section
variable {c : Cx} {A : Around} {s : Shared} {env : Env} {H H' : List (Addr × O)}
theorem St.obj {f : Nat → List V} {ws : List Addr} {a : Addr} (S : St c ((a, .list (f ws.length)) :: (objs f ws ++ H)) s) : St c (objs f (ws ++ [a]) ++ H) s := by
  refine S.perm ?_
  rw [objs_snoc, List.append_assoc]
  exact List.perm_middle.symm
theorem St.objP {f : Nat → List V} {ws : List Addr} {a : Addr} (P : List (Addr × O)) (S : St c ((a, .list (f ws.length)) :: (P ++ (objs f ws ++ H))) s) : St c (P ++ (objs f (ws ++ [a]) ++ H)) s := by
  refine S.perm ?_
  rw [objs_snoc, ← List.append_assoc, ← List.append_assoc, ← List.append_assoc, List.append_assoc (P ++ objs f ws)]
  exact List.perm_middle.symm
theorem UpdH.app {a : Addr} {o o' : O} {R R' : List (Addr × O)} : ∀ (P : List (Addr × O)), UpdH a o o' R R' → UpdH a o o' (P ++ R) (P ++ R')
  | [], u => u
  | _ :: P, u => .tail (UpdH.app P u)
theorem DelH.app {a : Addr} {o : O} {R R' : List (Addr × O)} : ∀ (P : List (Addr × O)), DelH a o R R' → DelH a o (P ++ R) (P ++ R')
  | [], u => u
  | _ :: P, u => .tail (DelH.app P u)
theorem for_J {x : Str} {px : Pos} {it : V} {body : List Stmt} {Q : F → Shared → Prop} (I : Nat → Shared → Prop) (J : Shared → Prop) (n : Nat) (h0 : I n s)
    (turn : ∀ n s, I n s → nextV c A it (fun r s => match r with
      | none => J s
      | some v => ∀ y, VR v y → wpU c A (storeName env x y) (fun s => wpS c A (execs body env) (loopF (fun s => ∃ m, m < n ∧ I m s) Q) s) s) s) (fin : ∀ s, J s → Q .next s) :
    forV c A (.Name x px) it body env Q s := by
  refine for_inv I n h0 fun n s hI y ry => wpAny_mono (turn n s hI y ry) (fun r s h => ?_) fun _ _ e => e
  cases r with
  | none => exact fin _ h
  | some v => exact h
end
end Mine
end

section
open PySem PySem.W PySem.Calls PyProof.Rows PySem.SeqAt
set_option Elab.async false
set_option maxRecDepth 100000
set_option linter.unusedVariables false
namespace Mine
/-- the class of the lexer, its names and its functions -/
noncomputable def K0 (P : Params) : Frag := [93, 94, 70, 77, 84, 91].filterMap fun a => ((KO P).lookup a).map fun o => (a, o)
theorem pick_in {K : Frag} : ∀ {l : List Addr} {a : Addr} {o : Obj}, (l.filterMap fun a => (K.lookup a).map fun o => (a, o)).lookup a = some o → a ∈ l ∧ K.lookup a = some o
  | [], _, _, e => by cases e
  | b :: l, a, o, e => by
    cases q : K.lookup b with
    | none =>
      simp only [List.filterMap_cons, q, Option.map_none] at e
      exact ⟨.tail _ (pick_in e).1, (pick_in e).2⟩
    | some ob =>
      simp only [List.filterMap_cons, q, Option.map_some, List.lookup_cons] at e
      by_cases w : a = b
      · subst w
        simp at e
        exact ⟨.head _, e ▸ q⟩
      · rw [beq_false_of_ne w] at e
        exact ⟨.tail _ (pick_in e).1, (pick_in e).2⟩
section
variable {c : Cx} {A : Around} {s : Shared} {env : Env} {H H' : List (Addr × O)} {Q : V → Shared → Prop}
theorem k0_in (G : Good c) (S : St c H s) : (K0 c.w.params).In s.heap := fun a o e => by
  obtain ⟨h1, h2⟩ := pick_in e
  exact S.st.keep _ _ (G.kx _ _ h2) ((show ∀ a ∈ [93, 94, 70, 77, 84, 91], a ∉ tabsL by decide) a h1)
namespace C94
variable (P : Params)
theorem ga : findIn (K0 P) (.ref 94) "__getattribute__" = some (some (.builtin "object.__getattribute__")) := by kernel_rfl
theorem gat : findIn (K0 P) (.ref 94) "__getattr__" = some none := by kernel_rfl
theorem sa : findIn (K0 P) (.ref 94) "__setattr__" = some (some (.builtin "object.__setattr__")) := by kernel_rfl
theorem po : plainOver (K0 P) 94 = true := by kernel_rfl
theorem hd : hasDictIn (K0 P) 94 = true := by kernel_rfl
theorem mk : makesIn (K0 P) 94 = true := by kernel_rfl
theorem i : findIn (K0 P) (.ref 94) "__init__" = some (some (.ref 70)) := by kernel_rfl
theorem rc : findIn (K0 P) (.ref 94) "_read_char" = some (some (.ref 77)) := by kernel_rfl
theorem gt : findIn (K0 P) (.ref 94) "get_token" = some (some (.ref 84)) := by kernel_rfl
theorem pt : findIn (K0 P) (.ref 94) "push_token" = some (some (.ref 91)) := by kernel_rfl
theorem t70 : typeIn (K0 P) (.ref 70) = some (.type "function") := by kernel_rfl
theorem t77 : typeIn (K0 P) (.ref 77) = some (.type "function") := by kernel_rfl
theorem t84 : typeIn (K0 P) (.ref 84) = some (.type "function") := by kernel_rfl
theorem t91 : typeIn (K0 P) (.ref 91) = some (.type "function") := by kernel_rfl
theorem g77 : specialIn (K0 P) (.ref 77) "__get__" = some (some (.builtin "function.__get__")) := by kernel_rfl
theorem k77 : takesIn (K0 P) (.ref 77) = some false := by kernel_rfl
theorem n1 : findIn (K0 P) (.ref 94) "lineno" = some none := by kernel_rfl
theorem n2 : findIn (K0 P) (.ref 94) "instream" = some none := by kernel_rfl
theorem n3 : findIn (K0 P) (.ref 94) "whitespace" = some none := by kernel_rfl
theorem n4 : findIn (K0 P) (.ref 94) "pushback" = some none := by kernel_rfl
end C94
end
end Mine
end

section
open PySem PySem.W PySem.Calls PyProof.Rows PySem.SeqAt
set_option Elab.async false
set_option maxRecDepth 100000
set_option linter.unusedVariables false
namespace Mine
/-- a name's new value in a dict of names -/
noncomputable def putM (x : Str) (v : V) : List (Str × V) → List (Str × V)
  | [] => [(x, v)]
  | p :: m => if p.1 == x then (p.1, v) :: m else p :: putM x v m
theorem isStr_of (x y : Str) (t : Tok) : (Value.str y t).isStr x = (y == x) := rfl
theorem esr_len : ∀ {m : List (Str × V)} {es : List DictEntry}, EsR m es → es.length = m.length
  | [], [], _ => rfl
  | _ :: _, _ :: _, h => by simp [esr_len h.2.2]
  | [], _ :: _, h => h.elim
  | _ :: _, [], h => h.elim
theorem esr_ref : ∀ {m : List (Str × V)} {es : List DictEntry}, EsR m es → es.any (·.refKey) = false
  | [], [], _ => rfl
  | _ :: _, e :: _, ⟨⟨t, q⟩, _, h⟩ => by
    rw [List.any_cons, esr_ref h]
    unfold DictEntry.refKey
    rw [q]; rfl
  | [], _ :: _, h => h.elim
  | _ :: _, [], h => h.elim
theorem esr_get : ∀ {m : List (Str × V)} {es : List DictEntry}, EsR m es → ∀ {x : Str} {v : V}, m.lookup x = some v → ∃ y, getL x es = some (some y) ∧ VR v y
  | [], [], _, x, v, e => by cases e
  | (z, w) :: m, e :: es, ⟨⟨t, q⟩, r, h⟩, x, v, l => by
    unfold getL
    rw [List.lookup_cons] at l
    by_cases hz : z = x
    · subst hz
      rw [beq_self_eq_true] at l
      cases l
      rw [List.find?_cons_of_pos (by rw [q, isStr_of]; exact beq_self_eq_true z)]
      exact ⟨_, rfl, r⟩
    · rw [beq_false_of_ne (Ne.symm hz)] at l
      rw [List.find?_cons_of_neg (by rw [q, isStr_of, beq_false_of_ne hz]; exact Bool.false_ne_true)]
      obtain ⟨y, e1, e2⟩ := esr_get h l
      unfold getL at e1
      cases hf : es.find? (·.key.isStr x) with
      | none =>
        rw [hf] at e1
        simp only at e1
        split at e1 <;> cases e1
      | some en =>
        rw [hf] at e1
        simp only [Option.some.injEq] at e1
        exact ⟨y, by simp only [e1], e2⟩
  | [], _ :: _, h, _, _, _ => h.elim
  | _ :: _, [], h, _, _, _ => h.elim
theorem esr_find : ∀ {m : List (Str × V)} {es : List DictEntry}, EsR m es → ∀ {x : Str}, m.lookup x = none → es.find? (·.key.isStr x) = none
  | [], [], _, x, e => rfl
  | (z, w) :: m, e :: es, ⟨⟨t, q⟩, r, h⟩, x, l => by
    rw [List.lookup_cons] at l
    by_cases hz : z = x
    · subst hz
      rw [beq_self_eq_true] at l
      cases l
    · rw [beq_false_of_ne (Ne.symm hz)] at l
      rw [List.find?_cons_of_neg (by rw [q, isStr_of, beq_false_of_ne hz]; exact Bool.false_ne_true)]
      exact esr_find h l
  | [], _ :: _, h, _, _ => h.elim
  | _ :: _, [], h, _, _ => h.elim
theorem esr_none {m : List (Str × V)} {es : List DictEntry} (h : EsR m es) {x : Str} (l : m.lookup x = none) : getL x es = some none := by
  unfold getL
  rw [esr_find h l]
  simp only [esr_ref h, Bool.false_eq_true, if_false]
theorem esr_put : ∀ {m : List (Str × V)} {es : List DictEntry}, EsR m es → ∀ {x : Str} {v : V} {y : Value} {hs : Int} {t : Tok}, VR v y → EsR (putM x v m) (putL x hs (.str x t) y es)
  | [], [], _, x, v, y, hs, t, r => ⟨⟨t, rfl⟩, r, trivial⟩
  | (z, w) :: m, e :: es, ⟨⟨t', q⟩, r', h⟩, x, v, y, hs, t, r => by
    unfold putM putL
    rw [q, isStr_of]
    cases hz : (z == x) with
    | true => exact ⟨⟨t', rfl⟩, r, h⟩
    | false => exact ⟨⟨t', q⟩, r', esr_put h r⟩
  | [], _ :: _, h, _, _, _, _, _, _ => h.elim
  | _ :: _, [], h, _, _, _, _, _, _ => h.elim
theorem putM_len (x : Str) (v : V) : ∀ m : List (Str × V), (putM x v m).length ≤ m.length + 1
  | [] => by simp [putM]
  | p :: m => by
    unfold putM
    have := putM_len x v m
    split <;> simp <;> omega
/-- no datum that is made when it is asked for -/
noncomputable def plainV : V → Prop
  | .bi _ => False
  | _ => True
theorem handed_of {v : V} {y : Value} (p : plainV v) (r : VR v y) : handedIn y = true := by
  cases v with
  | none => cases r; rfl
  | bool b => cases r; rfl
  | int i => obtain ⟨t, rfl⟩ := r; rfl
  | str x => obtain ⟨t, rfl⟩ := r; rfl
  | ref a => cases r; rfl
  | ty n => cases r; rfl
  | bi n => exact p.elim

section
variable {c : Cx} {A : Around} {s : Shared} {env : Env} {H H' : List (Addr × O)} {Q : V → Shared → Prop}
-- attributes
noncomputable def attrV (c : Cx) (A : Around) (name : Str) (ov : V) (K : V → Shared → Prop) (s : Shared) : Prop := ∀ x, VR ov x → wpV c A (getAttr x name true) K s
theorem e_Attr {o : Expr} {name : Str} {pos : Pos}
    (he : eval (.Attribute o name pos) env = (do
      let ov ← eval o env
      standAt pos.atName
      let r ← holding [ov] (getAttr ov name true)
      letTemporaryGo o ov r
      pure r))
    (h : wpV c A (eval o env) (fun ov s => attrV c A name ov Q s) s) : wpV c A (eval (.Attribute o name pos) env) Q s :=
  Attribute_any_ (wpAny_mono h (fun x _ ⟨v, r, q⟩ => q x r) fun _ _ e => e) he
noncomputable def setaV (c : Cx) (A : Around) (name : Str) (ov v : V) (Q : Shared → Prop) (s : Shared) : Prop := ∀ x y, VR ov x → VR v y → wpU c A (setAttr x name y) Q s
theorem s_AssAttr {o : Expr} {name : Str} {pos' pos : Pos} {value : Expr} {Q : F → Shared → Prop} (hs : swapsWith value (some (.Attribute o name pos')) pos.line env = pure false)
    (h : wpV c A (eval value env) (fun v s => wpV c A (eval o env) (fun ov s => setaV c A name ov v (fun s => Q .next s) s) s) s) :
    wpS c A (exec (.Assign [.Attribute o name pos'] value pos) env) Q s :=
  plainObj_wpAny_Assign_Attribute (wpAny_mono h (fun y _ ⟨v, rv, q⟩ => wpAny_mono q (fun x _ ⟨ov, ro, q⟩ => wpAny_mono (q x y ro rv) (fun _ _ h => ⟨.next, rfl, h⟩) fun _ _ e => e) fun _ _ e => e) fun _ _ e => e) hs
theorem s_AugAttr {o : Expr} {name : Str} {pos' pos : Pos} {op : Operator} {value : Expr} {Q : F → Shared → Prop}
    (h : wpV c A (eval o env) (fun ov s => attrV c A name ov (fun a s => wpV c A (eval value env) (fun b s => iopV c A op a b (fun v s => setaV c A name ov v (fun s => Q .next s) s) s) s) s) s) :
    wpS c A (exec (.AugAssign (.Attribute o name pos') op value pos) env) Q s :=
  wpAny_AugAssign_AttributeAny (wpAny_mono h (fun x _ ⟨ov, ro, q⟩ => wpAny_mono (q x ro) (fun a _ ⟨av, ra, q⟩ => wpAny_mono q (fun b _ ⟨bv, rb, q⟩ => wpAny_mono (q a b ra rb) (fun y _ ⟨v, rv, q⟩ => wpAny_mono (q x y ro rv) (fun _ _ h => ⟨.next, rfl, h⟩) fun _ _ e => e) fun _ _ e => e) fun _ _ e => e) fun _ _ e => e) fun _ _ e => e)

theorem dct_of {h : Heap} {a : Addr} {m : List (Str × V)} (hh : Holds h a (.dct m)) : ∃ es n, h.get? a = some (dictOf es n) ∧ EsR m es := by
  obtain ⟨co, g, es, n, rfl, r⟩ := hh
  exact ⟨es, n, g, r⟩
theorem raw_of {h : Heap} {a : Addr} {o : Obj} (hh : Holds h a (.raw o)) : h.get? a = some o := by
  obtain ⟨co, g, e⟩ := hh
  cases (show co = o from e)
  exact g
theorem inst_at {x dx : Addr} {m : List (Str × V)} (hx : Holds s.heap x (.raw (instObj 94 dx))) (hd : Holds s.heap dx (.dct m)) : ∃ es n, EsR m es ∧ s.heap.get? dx = some (dictOf es n) ∧ InstAt s.heap x (instObj 94 dx) 94 (some (dictOf es n)) := by
  obtain ⟨es, n, g, r⟩ := dct_of hd
  exact ⟨es, n, r, g, raw_of hx, rfl, rfl, g⟩
theorem a_ins {x dx : Addr} {m : List (Str × V)} {name : Str} {v : V} (G : Good c) (S : St c H s) (hx : (x, O.raw (instObj 94 dx)) ∈ H) (hd : (dx, O.dct m) ∈ H) (hn : findIn (K0 c.w.params) (.ref 94) name = some none) (hl : m.lookup name = some v) (hp : plainV v)
    (h : ∀ s, St c H s → Q v s) : attrV c A name (.ref x) Q s := by
  rintro _ rfl
  obtain ⟨es, n, r, g, I⟩ := inst_at (S.has hx) (S.has hd)
  obtain ⟨y, e, ry⟩ := esr_get r hl
  exact get_value (k0_in G S) I (C94.ga _) (findObj_own (C94.hd _) hn rfl (by rw [lookIn_dict]; exact e)) (handed_of hp ry) ⟨v, ry, h _ (S.toks _)⟩
theorem m_ins {x dx f : Addr} {m : List (Str × V)} {name : Str} {K : V → List V → Shared → Prop} (G : Good c) (S : St c H s) (hx : (x, O.raw (instObj 94 dx)) ∈ H) (hd : (dx, O.dct m) ∈ H) (hn : findIn (K0 c.w.params) (.ref 94) name = some (some (.ref f))) (ht : typeIn (K0 c.w.params) (.ref f) = some (.type "function"))
    (hl : m.lookup name = none) (h : K (.ref f) [.ref x] s) : getV c A name (.ref x) K s := by
  rintro _ pl rfl
  obtain ⟨es, n, r, g, I⟩ := inst_at (S.has hx) (S.has hd)
  exact method_fn (k0_in G S) I (C94.ga _) (C94.gat _) hn ht (by show (lookIn name (dictOf es n)).map _ = _; rw [lookIn_dict, esr_none r hl]; rfl) ⟨.ref f, [.ref x], rfl, ⟨rfl, trivial⟩, h⟩
/-- a bound method as a value -/
theorem a_bound {x dx f : Addr} {m : List (Str × V)} {name : Str} (G : Good c) (S : St c H s) (hx : (x, O.raw (instObj 94 dx)) ∈ H) (hd : (dx, O.dct m) ∈ H) (hn : findIn (K0 c.w.params) (.ref 94) name = some (some (.ref f))) (ht : typeIn (K0 c.w.params) (.ref f) = some (.type "function"))
    (hg : specialIn (K0 c.w.params) (.ref f) "__get__" = some (some (.builtin "function.__get__"))) (hk : takesIn (K0 c.w.params) (.ref f) = some false) (hc : copiedNames.contains name = false) (hl : m.lookup name = none)
    (h : ∀ q s, St c ((q, .fld "method" [.ref f, .ref x]) :: H) s → Q (.ref q) s) : attrV c A name (.ref x) Q s := by
  rintro _ rfl
  obtain ⟨es, n, r, g, I⟩ := inst_at (S.has hx) (S.has hd)
  refine get_bind (k0_in G S) I (C94.ga _) (findObj_fn (C94.hd _) hn hg hk hc (by rw [lookIn_dict]; exact esr_none r hl)) (C94.gat _)
    (wpAny_call (fn_get (s := { s with toks := s.toks + 1 }) (k0_in G (S.toks _)) ht (handed_on rfl ⟨.ref _, rfl, h _ _ ?_⟩)))
  exact S.alloc (o := .fld "method" [.ref f, .ref x]) (t := s.toks + 1) rfl ⟨#[.ref f, .ref x], rfl, rfl, rfl, trivial⟩ (fun _ _ e => nomatch e)
end
end Mine
end

section
open PySem PySem.W PySem.Calls PyProof.Rows PySem.SeqAt Builtin.ObjectAttr
set_option Elab.async false
set_option maxRecDepth 100000
set_option linter.unusedVariables false
namespace Mine
section
variable {c : Cx} {A : Around} {s : Shared} {env : Env} {H H' H₁ : List (Addr × O)} {Q : V → Shared → Prop}
/-- a name goes into a dict of names -/
theorem put_dct {d : Addr} {es : List DictEntry} {n : Nat} {m : List (Str × V)} {name : Str} {y : Value} {E : Value → Shared → Prop} {K : Unit → Shared → Prop} (g : s.heap.get? d = some (dictOf es n)) (r : EsR m es)
    (h : ∀ h', h'.get? d = some (dictOf (putL name (PyData.keyHash c.w.params name) (.str name s.toks) y es) (putN name es n)) → Heap.SameBut d s.heap h' → K () { s with heap := h', toks := s.toks + 1 }) : wpAny c.M A (nsSet d name y) K E s := by
  have noRef : (!es.toArray.any (·.key.isStr name) && es.toArray.any (·.refKey)) = false := by
    have := esr_ref r
    rw [← Array.any_toList, ← Array.any_toList, List.toList_toArray, this, Bool.and_false]
  unfold nsSet
  refine wpAny_bind (wpAny_bind (wpAny_askSetting (wpAny_pure (wpAny_bind (wpAny_mkText (wpAny_bind (wpAny_loadPart g ?_)))))))
  dsimp only
  rw [aRefKeyMayBeTheName_at, noRef]
  refine wpAny_updatePart g (h _ ?_ (Heap.SameBut.update ..))
  have e := putName_dict name (PyData.keyHash c.w.params name) (.str name s.toks) y es n
  rw [← e]
  exact Heap.get?_update_self _ g (by show (Obj.putName name (PyData.keyHash c.w.params name) (.str name s.toks) y (dictOf es n)).isFreed = false; rw [e]; rfl)
theorem store_dct {d : Addr} {es : List DictEntry} {n : Nat} {m : List (Str × V)} {name : Str} {tk : Tok} {v : V} {y : Value} {E : Value → Shared → Prop} {K : Fin → Shared → Prop} (g : s.heap.get? d = some (dictOf es n)) (r : EsR m es) (rv : VR v y) (hl : m.length ≤ 1000)
    (h : ∀ h', Holds h' d (.dct (putM name v m)) → Heap.SameBut d s.heap h' → K (.done (.ret .none)) { s with heap := h', toks := s.toks + 1 }) : wpAny c.M A (storeInDict d (.str name tk) name y) K E s := by
  unfold storeInDict
  refine wpAny_bind (wpAny_pure (wpAny_bind (put_dct g r fun h' g' sb => ?_)))
  refine wpAny_bind (wpAny_lookBehind g' (pastItsLine_dict ?_) (wpAny_pure (h h' ⟨_, g', _, _, rfl, esr_put r rv⟩ sb)))
  have := esr_len (esr_put (x := name) (v := v) (y := y) (hs := PyData.keyHash c.w.params name) (t := s.toks) r rv)
  have h2 := putM_len name v m
  rw [List.size_toArray, this, sizeLine_eq]; omega
theorem sa_ins {x dx : Addr} {m : List (Str × V)} {name : Str} {v : V} {Q : Shared → Prop} (G : Good c) (S : St c H s) (hx : (x, O.raw (instObj 94 dx)) ∈ H) (u : UpdH dx (.dct m) (.dct (putM name v m)) H H') (hn : findIn (K0 c.w.params) (.ref 94) name = some none) (hl : m.length ≤ 1000)
    (h : ∀ s, St c H' s → Q s) : setaV c A name (.ref x) v Q s := by
  rintro _ y rfl ry
  obtain ⟨es, n, r, g, I⟩ := inst_at (S.has hx) (S.has u.mem)
  refine set_plain (k0_in G S) I (C94.sa _) (osa_open (s := { s with toks := s.toks + 1 }) (k0_in G (S.toks _)) I (C94.po _) (r := none) (by unfold takerIn; rw [hn]; rfl) fun b => ?_)
  obtain ⟨cd, hc, hd⟩ := any_some (C94.hd c.w.params)
  refine wpAny_bind (wpAny_pure (wpAny_bind (wpAny_bind (wpAny_loadPart (raw_of (S.has hx)) (wpAny_bind ((looks_clsIn (k0_in G (S.toks (s.toks + 1))) hc).here ?_))))))
  rw [hd]
  refine wpAny_pure (a := some dx) ?_
  refine store_dct (c := c) (s := { s with toks := s.toks + 1 }) (v := v) g r ry hl fun h' hh sb => ?_
  exact h _ (S.upd G u sb.extBut hh _ (fun _ _ e => nomatch e))

-- the function that is a stream
theorem slot_fn_sa : Slot "function" "__setattr__" "object.__setattr__" :=
  .of (owner := "object") (n := "__setattr__") (by rw [typeLookup_type, builtinLookup_eq_fast]; kernel_rfl) (by decide +kernel) (by decide +kernel) (by decide +kernel) (.inl (by decide +kernel)) (by rw [isSubtype_type]; kernel_rfl)
theorem slot_fn_ga : Slot "function" "__getattribute__" "object.__getattribute__" :=
  .of (owner := "object") (n := "__getattribute__") (by rw [typeLookup_type, builtinLookup_eq_fast]; kernel_rfl) (by decide +kernel) (by decide +kernel) (by decide +kernel) (.inl (by decide +kernel)) (by rw [isSubtype_type]; kernel_rfl)
theorem fn_gat : typeLookup (.type "function") "__getattr__" = pure none := by rw [typeLookup_type, builtinLookup_eq_fast]; kernel_rfl
theorem fn_read : typeLookup (.type "function") "read" = pure none := by rw [typeLookup_type, builtinLookup_eq_fast]; kernel_rfl
theorem fn_mro : mroOf (.type "function") = pure [.type "function", .type "object"] := by rw [mroOf_type]; kernel_rfl
theorem fn_pass (self : Value) : refuseLoop self "__setattr__" [.type "function", .type "object"] = pure () := by kernel_rfl
theorem fn_hasDict : typeHasDict (.type "function") = true := by decide +kernel
theorem entry_osa : entryFor table "object.__setattr__" = some Builtin.«object.__setattr__» := F.store_object.entry
theorem entry_oga : entryFor table "object.__getattribute__" = some Builtin.«object.__getattribute__» := entryFor_of_tree (by kernel_rfl)
theorem args_oga (a b : Value) : argsOk "object.__getattribute__" ⟨[a, b], []⟩ := by unfold argsOk; kernel_rfl
theorem clo_of {h : Heap} {a : Addr} {fd : FuncData} {d : Option Addr} (hh : Holds h a (.clo fd d)) : h.get? a = some ⟨.type "function", d, .func fd, #[]⟩ := by
  obtain ⟨co, g, e⟩ := hh
  cases (show co = _ from e)
  exact g
/-- an attribute of a function, the first one -/
theorem sa_fn {st : Addr} {fd : FuncData} {v : V} {H' : Addr → List (Addr × O)} {Q : Shared → Prop} (G : Good c) (S : St c H s) (u : ∀ d, UpdH st (.clo fd none) (.clo fd (some d)) H (H' d))
    (h : ∀ d s, St c ((d, .dct [("read", v)]) :: H' d) s → Q s) : setaV c A "read" (.ref st) v Q s := by
  rintro _ y rfl ry
  have g := clo_of (S.has (u 0).mem)
  have hT : ∀ t, ({ s with toks := t } : Shared).TypeIs (.ref st) "function" := fun _ => ⟨_, g, rfl⟩
  unfold setAttr
  refine wpAny_bind (wpAny_mkText (wpAny_bind (wpAny_callSpecial?_slot (hT _) slot_fn_sa (wpAny_call_entry slot_fn_sa (hT _) entry_osa ?_ (F.store_object.args _ _ _)))))
  rw [osa_eq, refuse_eq]
  have f1 := fn_mro
  have f2 := fn_pass (.ref st)
  have f3 := fn_read
  have f4 := fn_hasDict
  obtain ⟨hp, gg, dr, tk, os⟩ := s
  have hT' := hT (tk + 1)
  dsimp only at g hT'
  have S1 : St c ((hp.objs.size, .dct []) :: H) ⟨hp.push (dictOf [] 0), gg, dr, tk + 1, os⟩ := S.alloc (o := .dct []) (t := tk + 1) rfl ⟨[], 0, rfl, trivial⟩ (fun _ _ e => nomatch e)
  have g1 := clo_of (S1.has (.tail _ (u 0).mem))
  have S2 : St c ((hp.objs.size, .dct []) :: H' hp.objs.size) ⟨(hp.push (dictOf [] 0)).update st fun o => { o with dict := some hp.objs.size }, gg, dr, tk + 1, os⟩ :=
    S1.upd G (.tail (u hp.objs.size)) (Heap.SameBut.update ..).extBut ⟨⟨.type "function", some hp.objs.size, .func fd, #[]⟩, Heap.get?_update_self (fun o => { o with dict := some hp.objs.size }) g1 rfl, rfl⟩ (tk + 1) (fun fd' d' e => by cases e; exact ⟨none, rfl⟩)
  obtain ⟨es, n, gd, r⟩ := dct_of (S2.has (.head _))
  repeat (any_goals (first | assumption | (with_reducible refine store_dct (c := c) (m := []) (v := v) gd r ry (by decide) ?_) | wp_step))
  intro h' hh sb
  refine ⟨_, rfl, wpAny_pure (h _ _ (S2.upd G .head sb.extBut hh _ (fun _ _ e => nomatch e)))⟩
/-- and asked for as a method -/
theorem m_fn {st d : Addr} {fd : FuncData} {m : List (Str × V)} {v : V} {K : V → List V → Shared → Prop} (S : St c H s) (hs : (st, O.clo fd (some d)) ∈ H) (hd : (d, O.dct m) ∈ H) (hl : m.lookup (Str.ofString "read") = some v) (hp : plainV v)
    (h : ∀ s, St c H s → K v [] s) : getV c A "read" (.ref st) K s := by
  rintro _ pl rfl
  have g := clo_of (S.has hs)
  obtain ⟨es, n, gd, r⟩ := dct_of (S.has hd)
  obtain ⟨y, e, ry⟩ := esr_get r hl
  have hT : ∀ t, ({ s with toks := t } : Shared).TypeIs (.ref st) "function" := fun _ => ⟨_, g, rfl⟩
  have hgo : ∀ s : Shared, s.heap.get? d = some (dictOf es n) → ∀ (A : Around) (E : Value → Shared → Prop) (P : Option Value → Shared → Prop), P (some y) s → wpAny c.M A (nsGet d "read") P E s := fun s q A E P hP => by
    unfold nsGet
    refine wpAny_bind (wpAny_loadPart q ?_)
    rw [nsLook_of (r := some y) (by rw [lookIn_dict]; exact e)]
    exact wpAny_pure hP
  have f1 := slot_fn_ga.lookup
  have f2 := fn_gat
  have f3 := fn_read
  have f4 := slot_fn_ga.bind (.ref st)
  have f5 := handedOut_of (handed_of hp ry)
  have f6 := PySem.F.canon_object_ga
  obtain ⟨hp', gg, dr, tk, os⟩ := s
  have hT0 := hT tk
  have hT' := hT (tk + 1)
  dsimp only at g hT' hT0
  unfold getMethod
  refine wpAny_bind (wpAny_specialOf hT0 f1 ?_)
  dsimp only
  rw [f6, if_neg (by decide)]
  refine wpAny_bind (wpAny_specialOf hT0 f2 ?_)
  refine wpAny_bind (wpAny_specialOf hT0 f3 ?_)
  dsimp only
  unfold getAttr getAttrBy
  refine wpAny_bind (wpAny_bind (wpAny_mkText (wpAny_holding (wpAny_bind (wpAny_typeOf hT' (wpAny_bind (wpAny_of_eq f1 ?_)))))))
  show wpAny _ _ (getAttrByItsOwn _ _ _ _ _ _) _ _ _
  unfold getAttrByItsOwn
  refine wpAny_bind (wpAny_pure (wpAny_bind (wpAny_attempt (wpAny_holding ?_))))
  show wpAny _ _ (boundAndCalled _ _ _) _ _ _
  unfold boundAndCalled
  rw [f4]
  refine wpAny_bind (wpAny_pure (wpAny_call_entry slot_fn_ga hT' entry_oga ?_ (args_oga _ _)))
  unfold Builtin.«object.__getattribute__»
  refine wpAny_bind (wpAny_pure ?_)
  refine wpAny_bind (wpAny_pure (wpAny_bind (wpAny_typeOf hT' ?_)))
  unfold find
  refine wpAny_bind (wpAny_bind (wpAny_of_eq f3 (wpAny_bind (wpAny_pure (wpAny_bind (wpAny_pure ?_))))))
  show wpAny _ _ (ownThenClass _ _ _ _) _ _ _
  unfold ownThenClass
  refine wpAny_bind (wpAny_bind (wpAny_bind (wpAny_loadPart g ?_)))
  dsimp only
  unfold instanceDict
  refine wpAny_bind (wpAny_loadPart g ?_)
  refine wpAny_pure (a := some d) ?_
  show wpAny _ _ (nsGet d _) _ _ _
  refine hgo ⟨hp', gg, dr, tk + 1, os⟩ gd _ _ _ ?_
  refine wpAny_bind (wpAny_rule (wpAny_pure ?_))
  refine wpAny_pure ⟨y, rfl, ?_⟩
  show wpAny _ _ (handedOut y) _ _ _
  rw [f5]
  exact wpAny_pure (wpAny_pure ⟨v, [], ry, trivial, h _ (S.toks _)⟩)
end
end Mine
end

section
open PySem PySem.W PySem.Calls PyProof.Rows PySem.SeqAt Builtin.ObjectAttr
set_option Elab.async false
set_option maxRecDepth 100000
set_option linter.unusedVariables false
namespace Mine
section
variable {c : Cx} {A : Around} {s : Shared} {env : Env} {H H' H₁ : List (Addr × O)} {Q : V → Shared → Prop}
/-- a call as code -/
noncomputable def codeV (c : Cx) (A : Around) (f : V) (vs : List V) (Q : V → Shared → Prop) (s : Shared) : Prop :=
  ∀ x xs, VR f x → VRs vs xs → codeAny c.M A (.call x ⟨xs, []⟩) (fun r s' => match r with | .ok (.ret y) => ∃ v, VR v y ∧ Q v s' | .ok _ => False | .error e => NoE e s') s
theorem codeV.call {f : V} {vs : List V} (h : codeV c A f vs Q s) : callV c A f vs Q s := fun x xs rx rs => wpAny_call (h x xs rx rs)
theorem code_fn {k : Nat} {f : Addr} {d : Option Addr} {name qual : Str} {params : Arguments} {body : List Stmt} {sc : Scope} {cl : List (Str × Addr)} {dv kv doc pm cd ct : Value} {an : Option Addr} {sl : Array (Option Value)} {vs : List V} {bs : List (Str × V)} {cn : List Str}
    (G : Good c) (S : St c H s) (R : Room (k + 1) A)
    (hf : s.heap.get? f = some ⟨.type "function", d, .func ⟨name, qual, params, .stmts body, sc, mainGlobals, cl, dv, kv, doc, pm, an, cd, ct, builtinsNs⟩, sl⟩) (hc : s.heap.CodeRec cd qual)
    (hb : ∀ xs, VRs vs xs → ∃ binds, bindArgs ⟨name, qual, params, .stmts body, sc, mainGlobals, cl, dv, kv, doc, pm, an, cd, ct, builtinsNs⟩ ⟨xs, []⟩ = pure binds ∧ VRb bs binds)
    (hco : sc.isCoroutine = false) (hgen : sc.isGenerator = false) (hcn : cellNames sc.names = cn)
    (h : ∀ L as s A, Room k A → as.length = cn.length → St c (cellsH as ((L, .ns []) :: H)) s →
      bindV c A (Env.mk sc L mainGlobals (zipC cn as cl) (qual ++ ".<locals>.") (some f) cd (some L) builtinsNs) bs
        (fun s => (∃ H₂, St c H₂ s) ∧ ∀ A, Room k A → wpS c A (execs body (Env.mk sc L mainGlobals (zipC cn as cl) (qual ++ ".<locals>.") (some f) cd (some L) builtinsNs)) (retF Q) s) s) :
    codeV c A (.ref f) vs Q s := by
  subst hcn
  rintro _ xs rfl rv
  obtain ⟨binds, eb, rb⟩ := hb xs rv
  refine codeAny_call_function (by have := R.depth; omega) hf rfl hco hgen rfl hc ?_
  rw [eb]
  refine wpAny_pure ?_
  refine wpAny_mono (new_env (A := A.in1) (Q := fun env s₂ => (∃ H₂, St c H₂ s₂) ∧ ∀ A, Room k A → wpS c A (execs body env) (retF Q) s₂) S rb fun L as s' hl S' => h L as s' A.in1 ⟨R.handled, by have := R.depth; show A.depth + k < _; omega, by have := R.units; show A.units + 1 + 16 * k < _; omega⟩ hl S') (fun env s₂ h₂ => ?_) fun _ _ e => e.elim
  obtain ⟨⟨H₂, S₂⟩, hw⟩ := h₂
  refine ⟨S₂.st.nolimit G, codeAny_func (wpAny_mono (hw (A.deeper env) (R.deeper env)) (fun fl s₃ ⟨g, r, q⟩ => ?_) fun _ _ e => e.elim)⟩
  cases g with
  | next => cases r; exact ⟨.none, rfl, q⟩
  | brk => cases r; exact ⟨.none, rfl, q⟩
  | cont => cases r; exact ⟨.none, rfl, q⟩
  | ret v => obtain ⟨x, rfl, rx⟩ := r; exact ⟨v, rx, q⟩
theorem code_top {k : Nat} {f ca : Addr} {d : Option Addr} {name qual qq : Str} {params : Arguments} {body : List Stmt} {sc : Scope} {dv kv doc pm ct : Value} {an : Option Addr} {sl : Array (Option Value)} {vs : List V} {bs : List (Str × V)} {cn : List Str}
    (G : Good c) (S : St c H s) (R : Room (k + 1) A)
    (hf : (KO c.w.params).lookup f = some ⟨.type "function", d, .func ⟨name, qual, params, .stmts body, sc, mainGlobals, [], dv, kv, doc, pm, an, .ref ca, ct, builtinsNs⟩, sl⟩)
    (hc : codeTab.lookup ca = some qq) (hq : qq = qual) (nf : f ∉ tabsL) (nc : ca ∉ tabsL)
    (hb : ∀ xs, VRs vs xs → ∃ binds, bindArgs ⟨name, qual, params, .stmts body, sc, mainGlobals, [], dv, kv, doc, pm, an, .ref ca, ct, builtinsNs⟩ ⟨xs, []⟩ = pure binds ∧ VRb bs binds)
    (hco : sc.isCoroutine = false) (hgen : sc.isGenerator = false) (hcn : cellNames sc.names = cn)
    (h : ∀ L as s A, Room k A → as.length = cn.length → St c (cellsH as ((L, .ns []) :: H)) s →
      bindV c A (Env.mk sc L mainGlobals (zipC cn as []) (qual ++ ".<locals>.") (some f) (.ref ca) (some L) builtinsNs) bs
        (fun s => (∃ H₂, St c H₂ s) ∧ ∀ A, Room k A → wpS c A (execs body (Env.mk sc L mainGlobals (zipC cn as []) (qual ++ ".<locals>.") (some f) (.ref ca) (some L) builtinsNs)) (retF Q) s) s) :
    codeV c A (.ref f) vs Q s :=
  code_fn G S R (S.st.keep _ _ (G.kx _ _ hf) nf) (code_old G S (hq ▸ hc) nc) hb hco hgen hcn h

-- the class is called
theorem Room.in1 {k : Nat} {A : Around} (R : Room (k + 1) A) : Room k A.in1 := ⟨R.handled, by have := R.depth; show A.depth + k < _; omega, by have := R.units; show A.units + 1 + 16 * k < _; omega⟩
theorem under_tc {k : Nat} {A : Around} (R : Room (k + 1) A) (C : Addr) (rest : List Value) : Room k (A.under (.builtin "type.__call__" ⟨.ref C :: rest, []⟩)) := by
  have h1 : (Code.builtin "type.__call__" ⟨.ref C :: rest, []⟩).weight = 1 := by kernel_rfl
  have h2 : (Code.builtin "type.__call__" ⟨.ref C :: rest, []⟩).cUnits = 1 := by kernel_rfl
  refine ⟨R.handled, ?_, ?_⟩
  · have := R.depth
    show A.depth + _ + k < _
    rw [h1]; omega
  · have := R.units
    show A.units + _ + 16 * k < _
    rw [h2]; omega
theorem k_make {k : Nat} {v : V} (G : Good c) (S : St c H s) (R : Room (k + 1) A)
    (h : ∀ x dx s A, Room k A → St c ((x, .raw (instObj 94 dx)) :: (dx, .dct []) :: H) s → codeV c A (.ref 70) [.ref x, v] (fun r s => r = .none ∧ Q (.ref x) s) s) : codeV c A (.ref 94) [v] Q s := by
  rintro _ xs rfl r
  obtain ⟨y, rfl, ry⟩ := r.one
  obtain ⟨hp, gg, dr, tk, os⟩ := s
  refine make_core (makes_of (k0_in G S) (C94.mk _)) (looks_findIn (k0_in G S) (C94.i _)) (fun self => bind_fn (k0_in G S) self (C94.t70 _)) (.inl rfl) ?_
  have S1 : St c ((hp.objs.size, .dct []) :: H) ⟨hp.push (dictOf [] 0), gg, dr, tk, os⟩ := S.alloc (o := .dct []) (t := tk) rfl ⟨[], 0, rfl, trivial⟩ (fun _ _ e => nomatch e)
  have S2 := S1.alloc (co := instObj 94 hp.objs.size) (o := .raw (instObj 94 hp.objs.size)) (t := tk) rfl rfl (fun _ _ e => nomatch e)
  have z := h _ _ _ _ (under_tc R 94 [y]) S2 _ [.ref (hp.objs.size + 1), y] rfl ⟨by rw [Heap.size_push]; rfl, ry, trivial⟩
  refine codeAny_mono z fun r s' z => ?_
  rcases r with e | (x | _ | _ | _) <;> try exact z
  obtain ⟨w, rw', e, q⟩ := z
  subst e
  refine ⟨rw', _, ?_, q⟩
  rw [Heap.size_push]; rfl
theorem w_cls {v : V} {args : List Expr} {pos : Pos} (G : Good c) (h : argV c A pos args env (fun vs s => (∃ H, St c H s) ∧ callV c A (.ref 94) vs Q s) s) : cwV c A pos (.ref 94) [] args env Q s := by
  rintro _ xs rfl r
  refine callWith_of (P := fun h => (K0 c.w.params).In h) (by rw [h.1]; rfl) (fun h' X => ?_) (h.2 _ _ fun ys vs s' rs q => ⟨(let ⟨H, S⟩ := q.1; k0_in G S), q.2 _ _ rfl (r.append rs)⟩)
  obtain ⟨k, hk, l⟩ := looks_keep (f := .ref 94) (M := c.M) (show keepIn (K0 c.w.params) (.ref 94) = true from by kernel_rfl) X
  exact ⟨k, hk.elim .inl fun e => .inr (.inl e), l⟩

-- a lambda
theorem e_Lambda {cc P : Addr} {pos : Pos} {p : Arguments} {sc : Scope} {body : Expr} {cl : List (Str × Addr)} (G : Good c) (S : St c H s) (hdef : defaultsOf p env = ([], [])) (hP : P ∈ tabsL) (hcc : cc ∉ tabsL) (he : env.code = .ref cc) (hg : env.globals = mainGlobals)
    (hh : CodeHd c.s₁.heap cc P) (hq : env.qual ++ "<lambda>" = qualAt pos) (hpos : ∀ q : Pos, q.line = pos.line → q.col = pos.col → qualAt q = qualAt pos) (hcl : closureFor sc env = pure cl)
    (h : ∀ f cd ct pm s, St c ((f, .clo ⟨"<lambda>", env.qual ++ "<lambda>", p, .expr body, sc, mainGlobals, cl, .none, .none, .none, pm, none, cd, ct, builtinsNs⟩ none) :: H) s → Q (.ref f) s) :
    wpV c A (eval (.Lambda p body sc pos) env) Q s :=
  kla_eval hdef (mk_fn G S hP hcc he hg hh hq hpos hcl rfl h)
end
end Mine
end

section
open PySem PySem.W PySem.Calls PyProof.Rows PySem.SeqAt Builtin.ObjectAttr
set_option Elab.async false
set_option maxRecDepth 100000
set_option linter.unusedVariables false
namespace Mine
theorem slot_ci_next : Slot "callable_iterator" "__next__" "callable_iterator.__next__" :=
  .of (owner := "callable_iterator") (n := "__next__") (by rw [typeLookup_type, builtinLookup_eq_fast]; kernel_rfl) (by decide +kernel) (by decide +kernel) (by decide +kernel) (.inl (by decide +kernel)) (by rw [isSubtype_type]; kernel_rfl)
theorem slot_ci_iter : Slot "callable_iterator" "__iter__" "callable_iterator.__iter__" :=
  .of (owner := "callable_iterator") (n := "__iter__") (by rw [typeLookup_type, builtinLookup_eq_fast]; kernel_rfl) (by decide +kernel) (by decide +kernel) (by decide +kernel) (.inl (by decide +kernel)) (by rw [isSubtype_type]; kernel_rfl)
theorem entry_ci_next : entryFor table "callable_iterator.__next__" = some Builtin.«callable_iterator.__next__» := entryFor_of_tree (by kernel_rfl)
theorem entry_ci_iter : entryFor table "callable_iterator.__iter__" = some Builtin.«dict_keyiterator.__iter__» :=
  entryFor_alias (id' := "dict_keyiterator.__iter__") (by kernel_rfl) (by first | rfl | decide +kernel | (unfold String.splitOn; simp +decide [String.splitOnAux])) (by decide +kernel) (by kernel_rfl)
theorem args_ci_next (a : Value) : argsOk "callable_iterator.__next__" ⟨[a], []⟩ := by unfold argsOk; kernel_rfl
theorem args_ci_iter (a : Value) : argsOk "callable_iterator.__iter__" ⟨[a], []⟩ := by unfold argsOk; kernel_rfl
theorem kind_iter : builtinKind "iter" = none := by decide +kernel
theorem plain_iter : plainId "iter" = true := by decide +kernel
theorem entry_iter : entryFor table "iter" = some Builtin.«iter» := entryFor_of_tree (by kernel_rfl)
theorem args_iter (a b : Value) : argsOk "iter" ⟨[a, b], []⟩ := by unfold argsOk; kernel_rfl
theorem method_has_call : typeLookup (.type "method") "__call__" = pure (some (.builtin "method.__call__")) := by rw [typeLookup_type, builtinLookup_eq_fast]; kernel_rfl
section
variable {c : Cx} {A : Around} {s : Shared} {env : Env} {H H' H₁ : List (Addr × O)} {Q : V → Shared → Prop}
theorem borrows {M : Model} {E : Value → Shared → Prop} {bm f : Addr} {self : Value} {o : Obj} {fd : FuncData} {P : Bool → Shared → Prop} (hb : s.heap.get? bm = some (methodObj (.ref f) self)) (hf : s.heap.get? f = some o) (hd : o.data = .func fd) (h : P true s) : wpAny M A (borrowsExactly (.ref bm)) P E s := by
  unfold borrowsExactly
  refine wpAny_bind (wpAny_load hb ?_)
  refine wpAny_bind (wpAny_load hf ?_)
  rw [hd]
  exact wpAny_pure h
theorem call_borrowed {M : Model} {E : Value → Shared → Prop} {f : Value} {pos : List Value} {P : Value → Shared → Prop}
    (hc : codeAny M A (.call f ⟨pos, []⟩) (fun r s' => match r with | .ok (.ret v) => P v s' | .ok _ => False | .error e => E e s') s) : wpAny M A (callBorrowed f pos) P E s := fun Γ p hΓ => by
  refine wpCode_mono (fun r s' h => ?_) (hc _ p rfl (hΓ.enter _ none p (by intro x; cases x)))
  rcases r with e | (v | _ | _ | _) <;> exact h
theorem meth_of {h : Heap} {a f x : Addr} (hh : Holds h a (.fld "method" [.ref f, .ref x])) : h.get? a = some (methodObj (.ref f) (.ref x)) := by
  obtain ⟨co, g, its, rfl, rv⟩ := hh
  obtain ⟨ls⟩ := its
  obtain ⟨p, q, rfl, e1, e2⟩ := rv.two
  cases e1; cases e2; exact g
theorem ci_of {h : Heap} {a b : Addr} {w : List Nat} {e : Bool} (hh : Holds h a (.fld "callable_iterator" [.ref b, .str w, .bool e])) : ∃ t, h.get? a = some ⟨.type "callable_iterator", none, .fields #[.ref b, .str ⟨w.toArray⟩ t, .bool e], #[]⟩ := by
  obtain ⟨co, g, its, rfl, rv⟩ := hh
  obtain ⟨ls⟩ := its
  obtain ⟨p, q, r, rfl, e1, ⟨t, e2⟩, e3⟩ := rv.thr
  cases e1; cases e2; cases e3; exact ⟨t, g⟩
theorem ce_of {h : Heap} {a : Addr} (hh : Holds h a (.fld "callable_iterator" [.none, .none, .bool true])) : h.get? a = some ⟨.type "callable_iterator", none, .fields #[.none, .none, .bool true], #[]⟩ := by
  obtain ⟨co, g, its, rfl, rv⟩ := hh
  obtain ⟨ls⟩ := its
  obtain ⟨p, q, r, rfl, e1, e2, e3⟩ := rv.thr
  cases e1; cases e2; cases e3; exact g
theorem k_iter {bm : Addr} {fs : List V} {v : V} (S : St c H s) (hb : (bm, O.fld "method" fs) ∈ H) (h : ∀ it s, St c ((it, .fld "callable_iterator" [.ref bm, v, .bool false]) :: H) s → Q (.ref it) s) : callV c A (.bi "iter") [.ref bm, v] Q s := by
  rintro _ xs rfl r
  obtain ⟨x, y, rfl, ex, ry⟩ := r.two
  cases ex
  obtain ⟨co, g, its, rfl, rv⟩ := S.has hb
  have hT : s.TypeIs (.ref bm) "method" := ⟨_, g, rfl⟩
  refine call_function_entry kind_iter plain_iter entry_iter (args_iter _ _) ?_
  unfold Builtin.«iter»
  refine wpAny_bind (wpAny_of_eq (a := [Value.ref bm, y]) rfl ?_)
  dsimp only
  refine wpAny_bind (wpAny_specialOf hT method_has_call ?_)
  refine wpAny_bind (wpAny_rule (wpAny_bind (wpAny_newObj_type (wpAny_pure ⟨_, rfl, .ref _, rfl, h _ _ ?_⟩))))
  exact S.alloc (o := .fld "callable_iterator" [.ref bm, v, .bool false]) (t := s.toks) rfl ⟨#[.ref bm, y, .bool false], rfl, rfl, ry, rfl, trivial⟩ (fun _ _ e => nomatch e)
theorem it_ci {it : Addr} {fs : List V} {K : V → Shared → Prop} (hi : Holds s.heap it (.fld "callable_iterator" fs)) (h : K (.ref it) s) : iterV c A (.ref it) K s := by
  rintro _ rfl
  obtain ⟨co, g, its, rfl, rv⟩ := hi
  have hT : s.TypeIs (.ref it) "callable_iterator" := ⟨_, g, rfl⟩
  refine wpAny_pyIter_slot hT slot_ci_iter (wpAny_call_entry slot_ci_iter hT entry_ci_iter ?_ (args_ci_iter _))
  exact wpAny_pure ⟨_, rfl, "callable_iterator", _, hT, slot_ci_next.lookup, .ref it, rfl, h⟩
theorem stop_here {α : Type} {M : Model} {E : Value → Shared → Prop} {P : α → Shared → Prop} (hh : A.handled = none) (h : ∀ e h', (∀ b o, s.heap.get? b = some o → h'.get? b = some o) → ({ s with heap := h' } : Shared).TypeIs (.ref e) "StopIteration" → E (.ref e) { s with heap := h' }) :
    wpAny M A (Builtin.SmallTypes.stopIteration : Sem α) P E s := by
  unfold Builtin.SmallTypes.stopIteration
  simp only [newExc, newTuple]
  refine wpAny_bind (wpAny_bind (wpAny_newObj_type ?_ (by size_fits)))
  refine wpAny_bind (m := firstArgMember _ _) (wpAny_of_eq (a := Value.none) (by first | rfl | (simp only [firstArgMember]; rfl)) ?_)
  refine wpAny_newObj_type ?_ (by size_fits)
  exact wpAny_raiseNew_none hh (h _ _ (fun _ _ e => Heap.get?_push_of_some _ (Heap.get?_push_of_some _ e)) ⟨_, Heap.get?_push_size _ rfl, rfl⟩)
/-- an iterator that has ended -/
theorem nx_ci_ended {it : Addr} {K : Option V → Shared → Prop} (hh : A.handled = none) (S : St c H s) (hi : (it, O.fld "callable_iterator" [.none, .none, .bool true]) ∈ H) (h : ∀ s, St c H s → K none s) : nextV c A (.ref it) K s := by
  rintro _ rfl
  have g := ce_of (S.has hi)
  have hT : s.TypeIs (.ref it) "callable_iterator" := ⟨_, g, rfl⟩
  unfold pyNext
  refine wpAny_bind (wpAny_attempt (wpAny_callSpecial?_slot (name := Str.ofString "__next__") hT slot_ci_next (wpAny_call_entry slot_ci_next hT entry_ci_next ?_ (args_ci_next _))))
  unfold Builtin.«callable_iterator.__next__»
  refine wpAny_bind (wpAny_of_eq (a := (Value.ref it, [])) rfl ?_)
  dsimp only
  refine wpAny_bind (wpAny_field g rfl (x := .bool true) rfl ?_)
  rw [if_pos (by decide)]
  refine wpAny_bind (wpAny_rule (wpAny_bind (stop_here hh fun e h' k hT => ?_)))
  refine wpAny_bind (wpAny_isInstance (T := "StopIteration") (b := true) hT isSubtype_stop ?_)
  exact wpAny_pure (h _ (S.ext (t := s.toks) k))
/-- an iterator over a bound method: one more call -/
theorem nx_ci {it bm f x : Addr} {o : Obj} {fd : FuncData} {K : Option V → Shared → Prop} (G : Good c) (hh : A.handled = none) (S : St c H s) (hi : (it, O.fld "callable_iterator" [.ref bm, .str [], .bool false]) ∈ H) (hb : (bm, O.fld "method" [.ref f, .ref x]) ∈ H)
    (hf : c.s₁.heap.get? f = some o) (hd : o.data = .func fd) (nf : f ∉ tabsL)
    (h : codeV c A.in1 (.ref f) [.ref x] (fun v s => ∃ w H₁ H₂, v = .str w ∧ St c H₁ s ∧ (bm, O.fld "method" [.ref f, .ref x]) ∈ H₁ ∧ UpdH it (.fld "callable_iterator" [.ref bm, .str [], .bool false]) (.fld "callable_iterator" [.none, .none, .bool true]) H₁ H₂ ∧
      (w ≠ [] → K (some (.str w)) s) ∧ (w = [] → ∀ s, St c H₂ s → K none s)) s) : nextV c A (.ref it) K s := by
  rintro _ rfl
  obtain ⟨t, g⟩ := ci_of (S.has hi)
  have gb := meth_of (S.has hb)
  have hT : s.TypeIs (.ref it) "callable_iterator" := ⟨_, g, rfl⟩
  unfold pyNext
  refine wpAny_bind (wpAny_attempt (wpAny_callSpecial?_slot (name := Str.ofString "__next__") hT slot_ci_next (wpAny_call_entry slot_ci_next hT entry_ci_next ?_ (args_ci_next _))))
  unfold Builtin.«callable_iterator.__next__»
  refine wpAny_bind (wpAny_of_eq (a := (Value.ref it, [])) rfl ?_)
  dsimp only
  refine wpAny_bind (wpAny_field g rfl (x := .bool false) rfl ?_)
  rw [if_neg (by decide)]
  refine wpAny_bind (wpAny_field g rfl (x := .ref bm) rfl ?_)
  refine wpAny_bind (wpAny_attempt ?_)
  unfold callOutOfASlot
  refine wpAny_bind (borrows gb (S.st.keep _ _ hf nf) hd ?_)
  rw [if_pos rfl]
  refine call_borrowed (method_call gb (codeAny_mono (h _ [.ref x] rfl ⟨rfl, trivial⟩) fun r s' z => ?_))
  rcases r with e | (y | _ | _ | _) <;> try exact z.elim
  obtain ⟨v, rv, w, H₁, H₂, rfl, S₁, hb₁, u, k1, k2⟩ := z
  obtain ⟨t₂, rfl⟩ := rv
  obtain ⟨t₁, g₁⟩ := ci_of (S₁.has u.mem)
  have gb₁ := meth_of (S₁.has hb₁)
  dsimp only
  refine wpAny_bind (wpAny_field g₁ rfl (x := .bool false) rfl ?_)
  rw [if_neg (by decide)]
  refine wpAny_bind (wpAny_field g₁ rfl (x := .str ⟨[].toArray⟩ t₁) rfl ?_)
  refine wpAny_bind (wpAny_holding (wpAny_eqBool_str ?_))
  by_cases q : w = []
  · subst q
    rw [if_neg (by simp)]
    refine wpAny_bind (wpAny_rule (wpAny_bind ?_))
    refine wpAny_bind (m := field (.ref it) 0) (wpAny_field g₁ rfl (x := .ref bm) rfl ?_)
    refine wpAny_bind (m := slotLetsGo _ _ _) ?_
    unfold slotLetsGo
    refine wpAny_bind (borrows gb₁ (S₁.st.keep _ _ hf nf) hd ?_)
    rw [if_pos rfl]
    refine wpAny_pure ?_
    refine wpAny_bind (m := setField (.ref it) 0 .none) (wpAny_setField_rec g₁ (by simp) fun h1 e1 b1 => ?_)
    refine wpAny_bind (m := setField (.ref it) 1 .none) (wpAny_setField_rec e1 (by simp) fun h2 e2 b2 => ?_)
    refine wpAny_setField_rec (k := 2) (x := .bool true) e2 (by simp) fun h3 e3 b3 => ?_
    refine stop_here hh fun e h' k hT => ?_
    refine wpAny_bind (wpAny_isInstance (T := "StopIteration") (b := true) hT isSubtype_stop ?_)
    have S2 := S₁.upd G u (h' := h3) ((b1.trans b2).trans b3).extBut ⟨_, e3, #[.none, .none, .bool true], rfl, rfl, rfl, rfl, trivial⟩ s'.toks (fun _ _ e => nomatch e)
    exact wpAny_pure (k2 rfl _ (S2.ext (t := s'.toks) k))
  · have ne : (!decide ((⟨[].toArray⟩ : Str) = ⟨w.toArray⟩)) = true := by
      rw [decide_eq_false (fun e => ?_)]
      · rfl
      injection e with e
      exact q (by simpa using (congrArg Array.toList e).symm)
    rw [if_pos ne]
    exact wpAny_pure ⟨_, rfl, wpAny_pure ⟨.str w, ⟨t₂, rfl⟩, k1 q⟩⟩
end
end Mine
end

section
open PySem PySem.W PySem.Calls PyProof.Rows PySem.SeqAt
set_option Elab.async false
set_option maxRecDepth 100000
set_option linter.unusedVariables false
namespace Mine
/-- where the lexer's parts lie -/
structure Lx where
  x : Addr
  dx : Addr
  pb : Addr
  st : Addr
  sd : Addr
  rf : Addr
  ct : Addr
  ca : Addr
  al : Addr
  fdr : O
  fdl : O
  text : List Nat
noncomputable def nl (r : List Nat) : Nat := r.count 10
noncomputable def lexD (p : Lx) (k : Nat) : List (Str × V) := [("lineno", .int ((1 + nl (p.text.take k) : Nat) : Int)), ("instream", .ref p.st), ("whitespace", .str [10, 9, 13, 32]), ("pushback", .ref p.pb)]
@[reducible] noncomputable def LX (p : Lx) (k : Nat) (ws : List (List Nat)) (H : List (Addr × O)) : List (Addr × O) :=
  (p.x, .raw (instObj 94 p.dx)) :: (p.dx, .dct (lexD p k)) :: (p.pb, .list (ws.map V.str)) :: (p.st, p.fdl) :: (p.sd, .dct [("read", .ref p.rf)]) :: (p.rf, p.fdr) :: (p.ct, .cell (some (.str p.text))) :: (p.ca, .cell (some (.ref p.al))) :: (p.al, .list [.int (k : Int)]) :: H
structure LxOk (c : Cx) (p : Lx) : Prop where
  fdr : ∃ fd, p.fdr = .clo fd none
  fdl : ∃ fd, p.fdl = .clo fd (some p.sd)
  len : p.text.length ≤ 1000
  ascii : p.text.all (· < 128) = true
  nil : ∀ {H : List (Addr × O)} {s : Shared} {A : Around} {Q : V → Shared → Prop} {k : Nat}, St c H s → Room 1 A → (p.rf, p.fdr) ∈ H → (p.ct, O.cell (some (.str p.text))) ∈ H → (p.ca, O.cell (some (.ref p.al))) ∈ H → (p.al, O.list [.int (k : Int)]) ∈ H → p.text.drop k = [] → k ≤ 1000 →
    (∀ s, St c H s → Q (.str []) s) → callV c A (.ref p.rf) [.int 1] Q s
  cons : ∀ {H H' : List (Addr × O)} {s : Shared} {A : Around} {Q : V → Shared → Prop} {k d : Nat} {r : List Nat}, St c H s → Room 1 A → (p.rf, p.fdr) ∈ H → (p.ct, O.cell (some (.str p.text))) ∈ H → (p.ca, O.cell (some (.ref p.al))) ∈ H → UpdH p.al (.list [.int (k : Int)]) (.list [.int ((k + 1 : Nat) : Int)]) H H' → p.text.drop k = d :: r → k ≤ 1000 →
    (∀ s, St c H' s → Q (.str [d]) s) → callV c A (.ref p.rf) [.int 1] Q s
-- the plain lexer
noncomputable def wsp (d : Nat) : Bool := d == 10 || d == 9 || d == 13 || d == 32
noncomputable def lexW : List Nat → List Nat → List Nat × List Nat
  | acc, [] => (acc, [])
  | acc, [d] => if wsp d then (acc, []) else if d = 92 then (acc, []) else (acc ++ [d], [])
  | acc, d :: e :: r => if wsp d then (acc, e :: r) else if d = 92 then lexW (acc ++ [e]) r else lexW (acc ++ [d]) (e :: r)
termination_by _ l => l.length
noncomputable def lexQ : List Nat → List Nat → List Nat × List Nat
  | acc, [] => (acc, [])
  | acc, [d] => if d = 34 then (acc, []) else if d = 92 then (acc, []) else (acc ++ [d], [])
  | acc, d :: e :: r => if d = 34 then (acc, e :: r) else if d = 92 then lexQ (acc ++ [e]) r else lexQ (acc ++ [d]) (e :: r)
termination_by _ l => l.length
noncomputable def lexF : List Nat → List Nat × List Nat
  | [] => ([], [])
  | d :: r => if wsp d then lexF r else if d = 34 then lexQ [] r else if d = 92 then (match r with | [] => ([], []) | e :: r' => lexW [e] r') else lexW [d] r
theorem lit_nl : (Str.ofString "\n").cps.toList = [10] := by decide +kernel
theorem lit_wsp : (Str.ofString "\n\t\r ").cps.toList = [10, 9, 13, 32] := by decide +kernel
theorem lit_q : (Str.ofString "\"").cps.toList = [34] := by decide +kernel
theorem lit_b : (Str.ofString "\\").cps.toList = [92] := by decide +kernel
theorem lit_e : (Str.ofString "").cps.toList = [] := by decide +kernel
theorem wsp_all : (List.range 128).all (fun d => strIn [d] [10, 9, 13, 32] == wsp d) = true := by decide +kernel
theorem wsp_in {d : Nat} (h : d < 128) : strIn [d] [10, 9, 13, 32] = wsp d := by
  have := List.all_eq_true.mp wsp_all d (List.mem_range.mpr h)
  exact beq_iff_eq.mp this
theorem drop_cons {l : List Nat} {k d : Nat} {r : List Nat} (h : l.drop k = d :: r) : l.drop (k + 1) = r ∧ nl (l.take (k + 1)) = nl (l.take k) + (if d = 10 then 1 else 0) ∧ k < l.length ∧ d ∈ l := by
  have hk : k < l.length := by
    by_cases q : k < l.length
    · exact q
    · rw [List.drop_eq_nil_of_le (by omega)] at h; cases h
  rw [List.drop_eq_getElem_cons hk] at h
  injection h with h1 h2
  refine ⟨h2, ?_, hk, h1 ▸ List.getElem_mem hk⟩
  rw [List.take_add_one, List.getElem?_eq_getElem hk, h1]
  unfold nl
  rw [List.count_append]
  congr 1
  by_cases q : d = 10
  · subst q; rfl
  · simp [q]
theorem lexD_same {p : Lx} {k d : Nat} {r : List Nat} (h : p.text.drop k = d :: r) (hd : d ≠ 10) : lexD p (k + 1) = lexD p k := by
  unfold lexD
  rw [(drop_cons h).2.1, if_neg hd, Nat.add_zero]
theorem lexD_next {p : Lx} {k d : Nat} {r : List Nat} (h : p.text.drop k = d :: r) (hd : d = 10) : putM "lineno" (.int (((1 + nl (p.text.take k) : Nat) : Int) + 1)) (lexD p k) = lexD p (k + 1) := by
  unfold lexD
  rw [(drop_cons h).2.1, if_pos hd]
  simp only [putM, beq_self_eq_true, if_true]
  rfl
theorem lexD_1 {p : Lx} {k : Nat} : (lexD p k).lookup (Str.ofString "lineno") = some (.int ((1 + nl (p.text.take k) : Nat) : Int)) := by kernel_rfl
theorem lexD_2 {p : Lx} {k : Nat} : (lexD p k).lookup (Str.ofString "instream") = some (.ref p.st) := by kernel_rfl
theorem lexD_3 {p : Lx} {k : Nat} : (lexD p k).lookup (Str.ofString "whitespace") = some (.str [10, 9, 13, 32]) := by kernel_rfl
theorem lexD_4 {p : Lx} {k : Nat} : (lexD p k).lookup (Str.ofString "pushback") = some (.ref p.pb) := by kernel_rfl
theorem lexD_5 {p : Lx} {k : Nat} : (lexD p k).lookup (Str.ofString "_read_char") = none := by kernel_rfl
theorem lexD_6 {p : Lx} {k : Nat} : (lexD p k).lookup (Str.ofString "get_token") = none := by kernel_rfl
theorem lexD_7 {p : Lx} {k : Nat} : (lexD p k).lookup (Str.ofString "push_token") = none := by kernel_rfl
section
variable {c : Cx} {A : Around} {s : Shared} {H H' : List (Addr × O)} {Q : V → Shared → Prop}
theorem sa_insE {x dx : Addr} {m m' : List (Str × V)} {name : Str} {v : V} {Q : Shared → Prop} (G : Good c) (S : St c H s) (hx : (x, O.raw (instObj 94 dx)) ∈ H) (e : putM name v m = m') (u : UpdH dx (.dct m) (.dct m') H H') (hn : findIn (K0 c.w.params) (.ref 94) name = some none) (hl : m.length ≤ 1000)
    (h : ∀ s, St c H' s → Q s) : setaV c A name (.ref x) v Q s := by
  subst e
  exact sa_ins G S hx u hn hl h
theorem fn_at {f : Addr} {o : O} (e : ∃ fd, o = O.clo fd none) (S : St c H s) (hm : (f, o) ∈ H) : FnAt s.heap f := by
  obtain ⟨fd, rfl⟩ := e
  exact fn_clo S hm
end
end Mine
end

section
open PySem PySem.W PySem.Calls PyProof.Rows PySem.SeqAt
set_option Elab.async false
set_option maxRecDepth 100000
set_option linter.unusedVariables false
namespace Mine
theorem cnt_nl : ∀ l : List Nat, cnt 10 l = (nl l : Int)
  | [] => rfl
  | d :: l => by
    have ih := cnt_nl l
    unfold cnt at ih ⊢
    rw [List.map_cons]
    unfold nl at ih ⊢
    rw [List.count_cons]
    by_cases q : d = 10
    · subst q
      simp only [Spec.countIn] at ih ⊢
      rw [ih]
      simp [Spec.same]
      omega
    · simp only [Spec.countIn] at ih ⊢
      rw [ih]
      have : ¬ (({ cps := #[d] } : Str) = { cps := #[10] }) := fun e => q (by injection e with e; simpa using e)
      simp [Spec.same, q, this]
theorem count_nl (text : List Nat) : Txt.count ⟨text.toArray⟩ ⟨[10].toArray⟩ = (nl text : Int) := (count_is _ 10).trans (cnt_nl text)
section
variable {c : Cx} {A : Around} {s : Shared} {H H' : List (Addr × O)} {Q : V → Shared → Prop}
theorem c_intup {a : Addr} {x : List Nat} {ys : List (List Nat)} (u : A.units + 65 < cLine) (ha : Holds s.heap a (.tup (ys.map V.str))) (oy : ∀ v ∈ ys.map V.str, OkV v) (ox : OkV (.str x)) (h : Q (.bool (decide (x ∈ ys))) s) : cmpV c A .In (.str x) (.ref a) Q s := by
  rintro _ _ ⟨t, rfl⟩ rfl
  obtain ⟨co, g, its, n, rfl, r⟩ := ha
  have rd : Reads s.heap (.ref a) (.tuple ((ys.map V.str).map PD)) [] := .tuple g rfl rfl (readsAll_of (fun v hv => (oy v hv).flat) r)
  have hs : shaped (.tuple ((ys.map V.str).map PD)) = true := by
    obtain ⟨p, q⟩ := canLay_all oy
    rw [List.map_map] at p q
    simp [shaped, PyData.canLay0, PyData.depth, p, q]
  have hx : shaped (PD (.str x)) = true := by simp [shaped, canLay_ok ox, depth_ok ox]
  refine in_tuple_dataH rd (.str _ t) hs hx u (fun y hy => ?_) ⟨.bool _, rfl, ?_⟩
  · obtain ⟨v, hv, rfl⟩ := List.mem_map.mp hy
    obtain ⟨z, _, rfl⟩ := List.mem_map.mp hv
    rfl
  · have e : (ys.map V.str).map PD = (ys.map fun y => (⟨y.toArray⟩ : Str)).map PyData.str := by rw [List.map_map, List.map_map]; rfl
    rw [e, ← in_tuple_meets]
    have e2 : ((ys.map fun y => (⟨y.toArray⟩ : Str)).any fun z => z == ⟨x.toArray⟩) = decide (x ∈ ys) := by
      rw [List.any_map]
      rw [Bool.eq_iff_iff, List.any_eq_true, decide_eq_true_iff]
      constructor
      · rintro ⟨y, hy, e⟩
        have : y = x := by simpa [str_beq] using e
        exact this ▸ hy
      · intro hx
        exact ⟨x, hx, by simp⟩
    rw [e2]; exact h
end
end Mine
end

section
open PySem PySem.W PySem.Calls PyProof.Rows
set_option Elab.async false
set_option maxRecDepth 100000
set_option linter.unusedVariables false
namespace Mine
section
variable {c : Cx} {A : Around} {H H' : List (Addr × O)} {sc : Scope} {L g : Addr} {cl : List (Str × Addr)} {qn : Str} {fu : Option Addr} {cd : Value} {fr : Option Addr} {bb : Addr} {x : Str} {v : V} {Q : V → Shared → Prop}
theorem tl_local {m : List (Str × V)} (hx : sc.names.lookup x = some .local) (hm : (L, O.ns m) ∈ H) (hv : (x, v) ∈ m) (hk : sc.kind = .function) (h : T c H (Q v)) : T c H (wpV c A (loadName (Env.mk sc L g cl qn fu cd fr bb) x) Q) :=
  fun s S => l_local S hx hm hv hk (h s S)
theorem tl_cell {a : Addr} (hx : sc.names.lookup x = some .cell) (hc : cl.lookup x = some a) (hm : (a, O.cell (some v)) ∈ H) (hk : sc.kind = .function) (h : T c H (Q v)) : T c H (wpV c A (loadName (Env.mk sc L g cl qn fu cd fr bb) x) Q) :=
  fun s S => l_cell S hx hc hm hk (h s S)
theorem tl_free {a : Addr} (hx : sc.names.lookup x = some .free) (hc : cl.lookup x = some a) (hm : (a, O.cell (some v)) ∈ H) (hk : sc.kind = .function) (h : T c H (Q v)) (hd : (x == ("__classdict__" : Str)) = false := by decide +kernel) : T c H (wpV c A (loadName (Env.mk sc L g cl qn fu cd fr bb) x) Q) :=
  fun s S => l_free S hx hc hm hk (h s S) hd
theorem tl_glob (G : Good c) (hx : sc.names.lookup x = some .globalImplicit) (hv : (x, v) ∈ globTab) (hk : sc.kind = .function) (hg : g = mainGlobals) (h : T c H (Q v)) : T c H (wpV c A (loadName (Env.mk sc L g cl qn fu cd fr bb) x) Q) :=
  fun s S => l_glob G S hx hv hk hg (h s S)
theorem tl_bi (G : Good c) (hx : sc.names.lookup x = some .globalImplicit) (hv : (x, v) ∈ biTab) (hk : sc.kind = .function) (hg : g = mainGlobals) (hb : bb = builtinsNs) (h : T c H (Q v)) : T c H (wpV c A (loadName (Env.mk sc L g cl qn fu cd fr bb) x) Q) :=
  fun s S => l_bi G S hx hv hk hg hb (h s S)
theorem ts_local {m m' : List (Str × V)} {P : Shared → Prop} (G : Good c) (hx : sc.names.lookup x = some .local) (u : UpdH L (O.ns m) (O.ns m') H H') (hs : SetL x v m m' ∨ (x ∉ m.map (·.1) ∧ m' = m ++ [(x, v)])) (hk : sc.kind = .function) (h : T c H' P) :
    T c H (fun s => ∀ y, VR v y → wpU c A (storeName (Env.mk sc L g cl qn fu cd fr bb) x y) P s) := fun s S y r => sn_local G S r hx u hs hk h
theorem ts_local1 {m m' : List (Str × V)} {y : Value} {P : Shared → Prop} (G : Good c) (r : VR v y) (hx : sc.names.lookup x = some .local) (u : UpdH L (O.ns m) (O.ns m') H H') (hs : SetL x v m m' ∨ (x ∉ m.map (·.1) ∧ m' = m ++ [(x, v)])) (hk : sc.kind = .function) (h : T c H' P) :
    T c H (wpU c A (storeName (Env.mk sc L g cl qn fu cd fr bb) x y) P) := fun s S => sn_local G S r hx u hs hk h
theorem ts_cell {a : Addr} {v₀ : Option V} {P : Shared → Prop} (G : Good c) (hx : sc.names.lookup x = some .cell) (hc : cl.lookup x = some a) (u : UpdH a (O.cell v₀) (O.cell (some v)) H H') (hk : sc.kind = .function) (h : T c H' P) :
    T c H (fun s => ∀ y, VR v y → wpU c A (storeName (Env.mk sc L g cl qn fu cd fr bb) x y) P s) := fun s S y r => sn_cell G S r hx hc u hk h
theorem ts_cell1 {a : Addr} {v₀ : Option V} {y : Value} {P : Shared → Prop} (G : Good c) (r : VR v y) (hx : sc.names.lookup x = some .cell) (hc : cl.lookup x = some a) (u : UpdH a (O.cell v₀) (O.cell (some v)) H H') (hk : sc.kind = .function) (h : T c H' P) :
    T c H (wpU c A (storeName (Env.mk sc L g cl qn fu cd fr bb) x y) P) := fun s S => sn_cell G S r hx hc u hk h
theorem tk_len {a : Addr} {xs : List V} (hr : ∀ s, St c H s → Holds s.heap a (.list xs)) (hl : (xs.length : Int) < 2 ^ 63) (h : T c H (Q (.int xs.length))) : T c H (callV c A (.bi "len") [.ref a] Q) := fun s S => k_len S (hr s S) hl h
theorem tm_append {a : Addr} {xs : List V} {K : V → List V → Shared → Prop} (hr : ∀ s, St c H s → Holds s.heap a (.list xs)) (h : T c H (K (.bi "list.append") [.ref a])) : T c H (getV c A "append" (.ref a) K) := fun s S => m_append (hr s S) (h s S)
theorem tm_pop {a : Addr} {xs : List V} {K : V → List V → Shared → Prop} (hr : ∀ s, St c H s → Holds s.heap a (.list xs)) (h : T c H (K (.bi "list.pop") [.ref a])) : T c H (getV c A "pop" (.ref a) K) := fun s S => m_pop (hr s S) (h s S)
theorem tm_reverse {a : Addr} {xs : List V} {K : V → List V → Shared → Prop} (hr : ∀ s, St c H s → Holds s.heap a (.list xs)) (h : T c H (K (.bi "list.reverse") [.ref a])) : T c H (getV c A "reverse" (.ref a) K) := fun s S => m_reverse (hr s S) (h s S)
theorem ta_ins {a dx : Addr} {m : List (Str × V)} (G : Good c) (hx : (a, O.raw (instObj 94 dx)) ∈ H) (hd : (dx, O.dct m) ∈ H) (hn : findIn (K0 c.w.params) (.ref 94) x = some none) (hl : m.lookup x = some v) (hp : plainV v) (h : T c H (Q v)) : T c H (attrV c A x (.ref a) Q) :=
  fun s S => a_ins G S hx hd hn hl hp h
theorem tm_ins {a dx f : Addr} {m : List (Str × V)} {K : V → List V → Shared → Prop} (G : Good c) (hx : (a, O.raw (instObj 94 dx)) ∈ H) (hd : (dx, O.dct m) ∈ H) (hn : findIn (K0 c.w.params) (.ref 94) x = some (some (.ref f))) (ht : typeIn (K0 c.w.params) (.ref f) = some (.type "function"))
    (hl : m.lookup x = none) (h : T c H (K (.ref f) [.ref a])) : T c H (getV c A x (.ref a) K) := fun s S => m_ins G S hx hd hn ht hl (h s S)
end
end Mine
end

section
open PySem PySem.W PySem.Calls PyProof.Rows
set_option Elab.async false
set_option maxRecDepth 100000
set_option linter.unusedVariables false
namespace Mine
section
variable {c : Cx} {A : Around} {env : Env} {H : List (Addr × O)} {Q : V → Shared → Prop} {P : Bool → Shared → Prop}
theorem t_r_nil {Q : F → Shared → Prop} (h : T c H (fun s => Q .next s))  : T c H (fun s => wpS c A (execs [] env) Q s) := T.l1 (fun s h => r_nil h) h
theorem t_r_cons {st : Stmt} {rest : List Stmt} {Q : F → Shared → Prop} (h : T c H (fun s => wpS c A (exec st env) (thenF (fun s' => wpS c A (execs rest env) Q s') Q) s))  : T c H (fun s => wpS c A (execs (st :: rest) env) Q s) := T.l1 (fun s h => r_cons h) h
theorem t_s_If {t : Expr} {b o : List Stmt} {pos : Pos} {Q : F → Shared → Prop} (h : T c H (fun s => wpB c A (isTrue t env (eval t env)) (fun x s => (x = true → wpS c A (execs b env) Q s) ∧ (x = false → wpS c A (execs o env) Q s)) s))  : T c H (fun s => wpS c A (exec (.If t b o pos) env) Q s) := T.l1 (fun s h => s_If h) h
theorem t_s_Return {e : Expr} {pos : Pos} {Q : F → Shared → Prop} (h : T c H (fun s => wpV c A (eval e env) (fun v s => Q (.ret v) s) s))  : T c H (fun s => wpS c A (exec (.Return (some e) pos) env) Q s) := T.l1 (fun s h => s_Return h) h
theorem t_s_Return0 {pos : Pos} {Q : F → Shared → Prop} (h : T c H (fun s => Q (.ret .none) s))  : T c H (fun s => wpS c A (exec (.Return none pos) env) Q s) := T.l1 (fun s h => s_Return0 h) h
theorem t_s_Continue {pos : Pos} {Q : F → Shared → Prop} (h : T c H (fun s => Q .cont s))  : T c H (fun s => wpS c A (exec (.Continue pos) env) Q s) := T.l1 (fun s h => s_Continue h) h
theorem t_s_Assign {x : Str} {p' pos : Pos} {e : Expr} {Q : F → Shared → Prop} (hs : swapsWith e (some (.Name x p')) pos.line env = pure false) (h : T c H (fun s => wpV c A (eval e env) (fun v s => ∀ y, VR v y → wpU c A (storeName env x y) (fun s => Q .next s) s) s))  : T c H (fun s => wpS c A (exec (.Assign [.Name x p'] e pos) env) Q s) := T.l1 (fun s h => s_Assign hs h) h
theorem t_s_Aug {x : Str} {p' pos : Pos} {op : Operator} {e : Expr} {Q : F → Shared → Prop} (h : T c H (fun s => wpV c A (loadName env x) (fun a s => wpV c A (eval e env) (fun b s => iopV c A op a b (fun v s => ∀ y, VR v y → wpU c A (storeName env x y) (fun s => Q .next s) s) s) s) s))  : T c H (fun s => wpS c A (exec (.AugAssign (.Name x p') op e pos) env) Q s) := T.l1 (fun s h => s_Aug h) h
theorem t_s_Expr {e : Expr} {pos : Pos} {Q : F → Shared → Prop} (hs : swapsWith e none pos.line env = pure false) (hi : interactive env = false) (h : T c H (fun s => wpV c A (eval e env) (fun _ s => Q .next s) s))  : T c H (fun s => wpS c A (exec (.Expr e pos) env) Q s) := T.l1 (fun s h => s_Expr hs hi h) h
theorem t_e_int {i : Int} {k : Nat} {pos : Pos} {Q : V → Shared → Prop} (h : T c H (fun s => Q (.int i) s))  : T c H (fun s => wpV c A (eval (.Constant (.int i) k pos) env) Q s) := T.l2 (fun s S h => e_int S h) h
theorem t_e_bool {b : Bool} {k : Nat} {pos : Pos} {Q : V → Shared → Prop} (h : T c H (fun s => Q (.bool b) s))  : T c H (fun s => wpV c A (eval (.Constant (.bool b) k pos) env) Q s) := T.l1 (fun s h => e_bool h) h
theorem t_e_none {k : Nat} {pos : Pos} {Q : V → Shared → Prop} (h : T c H (fun s => Q .none s))  : T c H (fun s => wpV c A (eval (.Constant .none k pos) env) Q s) := T.l1 (fun s h => e_none h) h
theorem t_e_str {x : Str} {k : Nat} {pos : Pos} {Q : V → Shared → Prop} (h : T c H (fun s => Q (.str x.cps.toList) s))  : T c H (fun s => wpV c A (eval (.Constant (.str x) k pos) env) Q s) := T.l2 (fun s S h => e_str S h) h
theorem t_e_name {x : Str} {pos : Pos} {Q : V → Shared → Prop} (h : T c H (fun s => wpV c A (loadName env x) Q s)) (hd : (x == ("__debug__" : Str)) = false := by decide +kernel) : T c H (fun s => wpV c A (eval (.Name x pos) env) Q s) := T.l1 (fun s h => e_name h hd) h
theorem t_e_BinOp {l r : Expr} {op : Operator} {pos : Pos} {Q : V → Shared → Prop} (h : T c H (fun s => wpV c A (eval l env) (fun a s => wpV c A (eval r env) (fun b s => opV c A op a b Q s) s) s))  : T c H (fun s => wpV c A (eval (.BinOp l op r pos) env) Q s) := T.l1 (fun s h => e_BinOp h) h
theorem t_e_Unary {x : Expr} {op : UnaryOp} {pos : Pos} {Q : V → Shared → Prop} (h : T c H (fun s => wpV c A (eval x env) (fun a s => uopV c A op a Q s) s))  : T c H (fun s => wpV c A (eval (.UnaryOp op x pos) env) Q s) := T.l1 (fun s h => e_Unary h) h
theorem t_e_Cmp {l r : Expr} {op : CmpOp} {pos : Pos} {Q : V → Shared → Prop} (hm : behindInMarks op r = false) (h : T c H (fun s => wpV c A (eval l env) (fun a s => wpV c A (eval r env) (fun b s => cmpV c A op a b Q s) s) s))  : T c H (fun s => wpV c A (eval (.Compare l [op] [r] pos) env) Q s) := T.l1 (fun s h => e_Cmp hm h) h
theorem t_b_Cmp {l r : Expr} {op : CmpOp} {pos : Pos} {t : Sem Value} {Q : Bool → Shared → Prop} (hm : behindInMarks op r = false) (h : T c H (fun s => wpV c A (eval l env) (fun a s => wpV c A (eval r env) (fun b s => cmpV c A op a b (fun v s => truV c A v Q s) s) s) s))  : T c H (fun s => wpB c A (isTrue (.Compare l [op] [r] pos) env t) Q s) := T.l1 (fun s h => b_Cmp hm h) h
theorem t_b_Not {x : Expr} {pos : Pos} {t : Sem Value} {Q : Bool → Shared → Prop} (h : T c H (fun s => wpB c A (isTrue x env (eval x env)) (fun b s => Q (!b) s) s))  : T c H (fun s => wpB c A (isTrue (.UnaryOp .Not x pos) env t) Q s) := T.l1 (fun s h => b_Not h) h
theorem t_b_And {x y : Expr} {pos : Pos} {t : Sem Value} {Q : Bool → Shared → Prop} (h : T c H (fun s => wpB c A (isTrue x env (eval x env)) (fun b s => (b = true → wpB c A (isTrue y env (eval y env)) Q s) ∧ (b = false → Q false s)) s))  : T c H (fun s => wpB c A (isTrue (.BoolOp .And [x, y] pos) env t) Q s) := T.l1 (fun s h => b_And h) h
theorem t_e_IfExp {t b o : Expr} {pos : Pos} {Q : V → Shared → Prop} (h : T c H (fun s => wpB c A (isTrue t env (eval t env)) (fun x s => (x = true → wpV c A (eval b env) Q s) ∧ (x = false → wpV c A (eval o env) Q s)) s))  : T c H (fun s => wpV c A (eval (.IfExp t b o pos) env) Q s) := T.l1 (fun s h => e_IfExp h) h
theorem t_e_Or {x y : Expr} {pos : Pos} {Q : V → Shared → Prop} (h : T c H (fun s => wpV c A (eval x env) (fun v s => truV c A v (fun b s => (b = true → Q v s) ∧ (b = false → wpV c A (eval y env) Q s)) s) s))  : T c H (fun s => wpV c A (eval (.BoolOp .Or [x, y] pos) env) Q s) := T.l1 (fun s h => e_Or h) h
theorem t_e_Call {f : Str} {p pos : Pos} {args : List Expr} (h : T c H (fun s => wpV c A (eval (.Name f p) env) (fun v s => cwV c A pos v [] args env Q s) s))  : T c H (fun s => wpV c A (eval (.Call (.Name f p) args [] pos) env) Q s) := T.l1 (fun s h => e_Call h) h
theorem t_e_CallM {o : Expr} {name : Str} {apos pos : Pos} {args : List Expr} (he : eval (.Call (.Attribute o name apos) args [] pos) env = (do
      let ov ← eval o env
      standAt apos.atName
      let (f, first) ← holding [ov] (getMethod ov name (do return (← importBound o env).getD true))
      callWith pos f first (backTo pos (starEach args env)) [])) (h : T c H (fun s => wpV c A (eval o env) (fun ov s => getV c A name ov (fun f first s => cwV c A pos f first args env Q s) s) s))  : T c H (fun s => wpV c A (eval (.Call (.Attribute o name apos) args [] pos) env) Q s) := T.l1 (fun s h => e_CallM he h) h
theorem t_e_List {es : List Expr} {pos : Pos} (h : T c H (fun s => wpL c A (spliced (backTo pos (starEach es env))) (fun vs s => newL c A vs Q s) s))  : T c H (fun s => wpV c A (eval (.List es pos) env) Q s) := T.l1 (fun s h => e_List h) h
theorem t_e_Tuple {es : List Expr} {k : Nat} {pos : Pos} (h : T c H (fun s => wpL c A (spliced (backTo pos (starEach es env))) (fun vs s => newT c A vs Q s) s))  : T c H (fun s => wpV c A (eval (.Tuple es k pos) env) Q s) := T.l1 (fun s h => e_Tuple h) h
theorem t_e_Sub {value slice : Expr} {pos : Pos} (h : T c H (fun s => wpV c A (eval value env) (fun o s => wpV c A (eval slice env) (fun i s => subV c A value slice o i Q s) s) s))  : T c H (fun s => wpV c A (eval (.Subscript value slice pos) env) Q s) := T.l1 (fun s h => e_Sub h) h
theorem t_b_val {e : Expr} {t : Sem Value} {Q : Bool → Shared → Prop} (he : isTrue e env t = (do let v ← t; standAt e.pos; holding [v] (truthy v))) (h : T c H (fun s => wpV c A t (fun v s => truV c A v Q s) s))  : T c H (fun s => wpB c A (isTrue e env t) Q s) := T.l1 (fun s h => b_val he h) h
theorem t_a_nil {pos : Pos} {Q : List V → Shared → Prop} (h : T c H (fun s => Q [] s))  : T c H (fun s => wpL c A (spliced (backTo pos (starEach [] env))) Q s) := T.l1 (fun s h => a_nil h) h
theorem t_a_cons {e : Expr} {rest : List Expr} {pos : Pos} {Q : List V → Shared → Prop} (he : starEach (e :: rest) env = (false, eval e env) :: starEach rest env) (h : T c H (fun s => wpV c A (eval e env) (fun v s => wpL c A (spliced (backTo pos (starEach rest env))) (fun vs s => Q (v :: vs) s) s) s))  : T c H (fun s => wpL c A (spliced (backTo pos (starEach (e :: rest) env))) Q s) := T.l1 (fun s h => a_cons he h) h
theorem t_g_nil {pos : Pos} {K : List V → Shared → Prop} (h : T c H (fun s => K [] s))  : T c H (fun s => argV c A pos [] env K s) := T.l1 (fun s h => g_nil h) h
theorem t_g_cons {e : Expr} {rest : List Expr} {pos : Pos} {K : List V → Shared → Prop} (he : starEach (e :: rest) env = (false, eval e env) :: starEach rest env) (hn : (backTo pos (starEach rest env)).any (·.1) = false) (h : T c H (fun s => wpV c A (eval e env) (fun v s => wpL c A (spliced (backTo pos (starEach rest env))) (fun vs s => K (v :: vs) s) s) s))  : T c H (fun s => argV c A pos (e :: rest) env K s) := T.l1 (fun s h => g_cons he hn h) h
theorem t_w_bi0 {id : String} {args : List Expr} {pos : Pos} (h : T c H (fun s => argV c A pos args env (fun vs s => callV c A (.bi id) vs Q s) s))  : T c H (fun s => cwV c A pos (.bi id) [] args env Q s) := T.l1 (fun s h => w_bi0 h) h
theorem t_w_ty0 {n : String} {args : List Expr} {pos : Pos} (h : T c H (fun s => argV c A pos args env (fun vs s => callV c A (.ty n) vs Q s) s))  : T c H (fun s => cwV c A pos (.ty n) [] args env Q s) := T.l1 (fun s h => w_ty0 h) h
theorem t_w_fn0 {a : Addr} {args : List Expr} {pos : Pos} (h : T c H (fun s => argV c A pos args env (fun vs s => FnAt s.heap a ∧ callV c A (.ref a) vs Q s) s))  : T c H (fun s => cwV c A pos (.ref a) [] args env Q s) := T.l1 (fun s h => w_fn0 h) h
theorem t_w_bi1 {id : String} {v : V} {args : List Expr} {pos : Pos} (h : T c H (fun s => argV c A pos args env (fun vs s => callV c A (.bi id) (v :: vs) Q s) s))  : T c H (fun s => cwV c A pos (.bi id) [v] args env Q s) := T.l1 (fun s h => w_bi1 h) h
theorem t_w_fn1 {a : Addr} {v : V} {args : List Expr} {pos : Pos} (h : T c H (fun s => argV c A pos args env (fun vs s => FnAt s.heap a ∧ callV c A (.ref a) (v :: vs) Q s) s))  : T c H (fun s => cwV c A pos (.ref a) [v] args env Q s) := T.l1 (fun s h => w_fn1 h) h
theorem t_o_add {a : Int} {b : Int}  (h : T c H (fun s => Q (.int (a + b)) s))  : T c H (fun s => opV c A .Add (.int a) (.int b) Q s) := T.l2 (fun s S h => o_add S h) h
theorem t_o_sub {a : Int} {b : Int}  (h : T c H (fun s => Q (.int (a - b)) s))  : T c H (fun s => opV c A .Sub (.int a) (.int b) Q s) := T.l2 (fun s S h => o_sub S h) h
theorem t_i_add {a : Int} {b : Int}  (h : T c H (fun s => Q (.int (a + b)) s))  : T c H (fun s => iopV c A .Add (.int a) (.int b) Q s) := T.l2 (fun s S h => i_add S h) h
theorem t_i_sub {a : Int} {b : Int}  (h : T c H (fun s => Q (.int (a - b)) s))  : T c H (fun s => iopV c A .Sub (.int a) (.int b) Q s) := T.l2 (fun s S h => i_sub S h) h
theorem t_o_shr {a : Int} {b : Int} (h0 : 0 ≤ b) (h : T c H (fun s => Q (.int (a.fdiv (2 ^ b.toNat))) s))  : T c H (fun s => opV c A .RShift (.int a) (.int b) Q s) := T.l2 (fun s S h => o_shr S h0 h) h
theorem t_o_mod {a : Int} {b : Int} (h0 : b ≠ 0) (h : T c H (fun s => Q (.int (a.fmod b)) s))  : T c H (fun s => opV c A .Mod (.int a) (.int b) Q s) := T.l2 (fun s S h => o_mod S h0 h) h
theorem t_o_div {a : Int} {b : Int} (h0 : b ≠ 0) (hb : b.natAbs < 2 ^ 30) (h : T c H (fun s => Q (.int (a.fdiv b)) s))  : T c H (fun s => opV c A .FloorDiv (.int a) (.int b) Q s) := T.l2 (fun s S h => o_div S h0 hb h) h
theorem t_o_shl {a : Int} {b : Int} (h0 : 0 ≤ b) (hb : b ≤ 1000000) (ha : a.natAbs < 2 ^ 64) (h : T c H (fun s => Q (.int (a * 2 ^ b.toNat)) s))  : T c H (fun s => opV c A .LShift (.int a) (.int b) Q s) := T.l2 (fun s S h => o_shl S h0 hb ha h) h
theorem t_o_pow {a : Int} {b : Int} (h0 : 0 ≤ b) (hb : b ≤ 1000000) (ha : a.natAbs < 2 ^ 64) (h : T c H (fun s => Q (.int (a ^ b.toNat)) s))  : T c H (fun s => opV c A .Pow (.int a) (.int b) Q s) := T.l2 (fun s S h => o_pow S h0 hb ha h) h
theorem t_o_mul {a : Int} {b : Int} (hb : a.natAbs < 2 ^ 64 ∨ b.natAbs < 2 ^ 64) (h : T c H (fun s => Q (.int (a * b)) s))  : T c H (fun s => opV c A .Mult (.int a) (.int b) Q s) := T.l2 (fun s S h => o_mul S hb h) h
theorem t_u_neg {a : Int}  (h : T c H (fun s => Q (.int (-a)) s))  : T c H (fun s => uopV c A .USub (.int a) Q s) := T.l2 (fun s S h => u_neg S h) h
theorem t_u_inv {a : Int}  (h : T c H (fun s => Q (.int (-a - 1)) s))  : T c H (fun s => uopV c A .Invert (.int a) Q s) := T.l2 (fun s S h => u_inv S h) h
theorem t_c_eq {a : Int} {b : Int}  (h : T c H (fun s => Q (.bool (decide (a = b))) s))  : T c H (fun s => cmpV c A .Eq (.int a) (.int b) Q s) := T.l1 (fun s h => c_eq h) h
theorem t_c_ne {a : Int} {b : Int}  (h : T c H (fun s => Q (.bool (decide (a ≠ b))) s))  : T c H (fun s => cmpV c A .NotEq (.int a) (.int b) Q s) := T.l1 (fun s h => c_ne h) h
theorem t_c_lt {a : Int} {b : Int}  (h : T c H (fun s => Q (.bool (decide (a < b))) s))  : T c H (fun s => cmpV c A .Lt (.int a) (.int b) Q s) := T.l1 (fun s h => c_lt h) h
theorem t_c_gt {a : Int} {b : Int}  (h : T c H (fun s => Q (.bool (decide (b < a))) s))  : T c H (fun s => cmpV c A .Gt (.int a) (.int b) Q s) := T.l1 (fun s h => c_gt h) h
theorem t_c_le {a : Int} {b : Int}  (h : T c H (fun s => Q (.bool (decide (a ≤ b))) s))  : T c H (fun s => cmpV c A .LtE (.int a) (.int b) Q s) := T.l1 (fun s h => c_le h) h
theorem t_c_ge {a : Int} {b : Int}  (h : T c H (fun s => Q (.bool (decide (b ≤ a))) s))  : T c H (fun s => cmpV c A .GtE (.int a) (.int b) Q s) := T.l1 (fun s h => c_ge h) h
theorem t_c_beq {p q : Bool} (h : T c H (fun s => Q (.bool (p == q)) s))  : T c H (fun s => cmpV c A .Eq (.bool p) (.bool q) Q s) := T.l1 (fun s h => c_beq h) h
theorem t_c_seq {x : List Nat} {y : List Nat}  (h : T c H (fun s => Q (.bool (decide (x = y))) s))  : T c H (fun s => cmpV c A .Eq (.str x) (.str y) Q s) := T.l1 (fun s h => c_seq h) h
theorem t_c_sin {x y : List Nat} (h : T c H (fun s => Q (.bool (strIn x y)) s))  : T c H (fun s => cmpV c A .In (.str x) (.str y) Q s) := T.l1 (fun s h => c_sin h) h
theorem t_in_tok {x : List Nat} (G : Good c) (h : T c H (fun s => Q (.bool (tokTab.lookup x).isSome) s))  : T c H (fun s => cmpV c A .In (.str x) (.ref 99) Q s) := T.l2 (fun s S h => in_tok G S h) h
theorem t_t_bool {p : Bool} (h : T c H (fun s => P p s))  : T c H (fun s => truV c A (.bool p) P s) := T.l1 (fun s h => t_bool h) h
theorem t_t_int {a : Int}  (h : T c H (fun s => P (decide (a ≠ 0)) s))  : T c H (fun s => truV c A (.int a) P s) := T.l1 (fun s h => t_int h) h
theorem t_n_list {vs : List V} (hl : vs.length ≤ 1000000) (h : ∀ a, T c ((a, .list vs) :: H) (fun s => Q (.ref a) s))  : T c H (fun s => newL c A vs Q s) := T.l3 (fun s S h => n_list S hl h) h
theorem t_n_tup {vs : List V} (hl : vs.length ≤ 1000000) (h : ∀ a, T c ((a, .tup vs) :: H) (fun s => Q (.ref a) s))  : T c H (fun s => newT c A vs Q s) := T.l3 (fun s S h => n_tup S hl h) h
theorem t_m_bits {i : Int} {K : V → List V → Shared → Prop} (h : T c H (fun s => K (.bi "int.bit_length") [.int i] s))  : T c H (fun s => getV c A "bit_length" (.int i) K s) := T.l1 (fun s h => m_bits h) h
theorem t_k_bits4 {Q : V → Shared → Prop} (h : T c H (fun s => Q (.int 3) s))  : T c H (fun s => callV c A (.bi "int.bit_length") [.int 4] Q s) := T.l2 (fun s S h => k_bits4 S h) h
theorem t_k_bits {i : Int} (h : T c H (fun s => Q (.int (Builtin.Int.intBits i)) s))  : T c H (fun s => callV c A (.bi "int.bit_length") [.int i] Q s) := T.l2 (fun s S h => k_bits S h) h
theorem t_k_abs {a : Int} (h : T c H (fun s => Q (.int (if a < 0 then -a else a)) s))  : T c H (fun s => callV c A (.bi "abs") [.int a] Q s) := T.l2 (fun s S h => k_abs S h) h
theorem t_k_slen {x : List Nat} (hl : (x.length : Int) < 2 ^ 63) (h : T c H (fun s => Q (.int x.length) s))  : T c H (fun s => callV c A (.bi "len") [.str x] Q s) := T.l2 (fun s S h => k_slen S hl h) h
theorem t_k_range1 {n : Int} (h : ∀ a, T c ((a, .fld "range" [.int 0, .int n, .int 1]) :: H) (fun s => Q (.ref a) s))  : T c H (fun s => callV c A (.ty "range") [.int n] Q s) := T.l3 (fun s S h => k_range1 S h) h
theorem t_k_range2 {m n : Int} (h : ∀ a, T c ((a, .fld "range" [.int m, .int n, .int 1]) :: H) (fun s => Q (.ref a) s))  : T c H (fun s => callV c A (.ty "range") [.int m, .int n] Q s) := T.l3 (fun s S h => k_range2 S h) h
theorem t_e_SliceS {l u st : Option Expr} {p : Pos} (h : T c H (fun s => partV c A l env (fun a s => partV c A u env (fun b s => partV c A st env (fun d s => ∃ H, St c H s ∧ ∀ x s, St c ((x, .fld "slice" [a, b, d]) :: H) s → Q (.ref x) s) s) s) s))  : T c H (fun s => wpV c A (eval (.Slice l u st p) env) Q s) := T.l1 (fun s h => e_SliceS h) h
theorem t_p_none  (h : T c H (fun s => Q .none s))  : T c H (fun s => partV c A none env Q s) := T.l1 (fun s h => p_none h) h
theorem t_p_some {e : Expr} (h : T c H (fun s => wpV c A (eval e env) Q s))  : T c H (fun s => partV c A (some e) env Q s) := T.l1 (fun s h => p_some h) h
theorem t_m_join {x : List Nat} {K : V → List V → Shared → Prop} (h : T c H (fun s => K (.bi "str.join") [.str x] s))  : T c H (fun s => getV c A "join" (.str x) K s) := T.l1 (fun s h => m_join h) h
theorem t_m_count {x : List Nat} {K : V → List V → Shared → Prop} (h : T c H (fun s => K (.bi "str.count") [.str x] s))  : T c H (fun s => getV c A "count" (.str x) K s) := T.l1 (fun s h => m_count h) h
theorem t_s_AssSub {o i : Expr} {pos' pos : Pos} {value : Expr} {Q : F → Shared → Prop} (hs : swapsWith value (some (.Subscript o i pos')) pos.line env = pure false) (h : T c H (fun s => wpV c A (eval value env) (fun v s => wpV c A (eval o env) (fun ov s => wpV c A (eval i env) (fun iv s => setV c A ov iv v (fun s => Q .next s) s) s) s) s))  : T c H (fun s => wpS c A (exec (.Assign [.Subscript o i pos'] value pos) env) Q s) := T.l1 (fun s h => s_AssSub hs h) h
theorem t_s_Whl {test : Expr} {body : List Stmt} {pos : Pos} {Q : F → Shared → Prop} (h : T c H (fun s => whileV c A test body env Q s))  : T c H (fun s => wpS c A (exec (.While test body [] pos) env) Q s) := T.l1 (fun s h => s_Whl h) h
theorem t_s_For {target iter : Expr} {body : List Stmt} {pos : Pos} {Q : F → Shared → Prop} (hs : ∀ x, foldedSetIterable iter env x = pure x) (h : T c H (fun s => wpV c A (eval iter env) (fun v s => iterV c A v (fun it s => forV c A target it body env Q s) s) s))  : T c H (fun s => wpS c A (exec (.For target iter body [] pos) env) Q s) := T.l1 (fun s h => s_For hs h) h
theorem t_b_nil {env : Env} {Q : Shared → Prop} (h : T c H (fun s => Q s))  : T c H (fun s => bindV c A env [] Q s) := T.l1 (fun s h => b_nil h) h
theorem t_b_cons {env : Env} {x : Str} {v : V} {r : List (Str × V)} {Q : Shared → Prop} (h : T c H (fun s => ∀ y, VR v y → wpU c A (storeName env x y) (fun s => bindV c A env r Q s) s))  : T c H (fun s => bindV c A env ((x, v) :: r) Q s) := T.l1 (fun s h => b_cons h) h
theorem t_as_nil {env : Env} {Q : Shared → Prop} (h : T c H (fun s => Q s))  : T c H (fun s => asgV c A env [] [] Q s) := T.l1 (fun s h => as_nil h) h
theorem t_as_cons {env : Env} {x : Str} {p : Pos} {v : V} {es : List Expr} {vs : List V} {Q : Shared → Prop} (h : T c H (fun s => ∀ y, VR v y → wpU c A (storeName env x y) (fun s => asgV c A env es vs Q s) s))  : T c H (fun s => asgV c A env (.Name x p :: es) (v :: vs) Q s) := T.l1 (fun s h => as_cons h) h
theorem t_e_Attr {o : Expr} {name : Str} {pos : Pos} (he : eval (.Attribute o name pos) env = (do
      let ov ← eval o env
      standAt pos.atName
      let r ← holding [ov] (getAttr ov name true)
      letTemporaryGo o ov r
      pure r)) (h : T c H (fun s => wpV c A (eval o env) (fun ov s => attrV c A name ov Q s) s))  : T c H (fun s => wpV c A (eval (.Attribute o name pos) env) Q s) := T.l1 (fun s h => e_Attr he h) h
theorem t_s_AssAttr {o : Expr} {name : Str} {pos' pos : Pos} {value : Expr} {Q : F → Shared → Prop} (hs : swapsWith value (some (.Attribute o name pos')) pos.line env = pure false) (h : T c H (fun s => wpV c A (eval value env) (fun v s => wpV c A (eval o env) (fun ov s => setaV c A name ov v (fun s => Q .next s) s) s) s))  : T c H (fun s => wpS c A (exec (.Assign [.Attribute o name pos'] value pos) env) Q s) := T.l1 (fun s h => s_AssAttr hs h) h
theorem t_s_AugAttr {o : Expr} {name : Str} {pos' pos : Pos} {op : Operator} {value : Expr} {Q : F → Shared → Prop} (h : T c H (fun s => wpV c A (eval o env) (fun ov s => attrV c A name ov (fun a s => wpV c A (eval value env) (fun b s => iopV c A op a b (fun v s => setaV c A name ov v (fun s => Q .next s) s) s) s) s) s))  : T c H (fun s => wpS c A (exec (.AugAssign (.Attribute o name pos') op value pos) env) Q s) := T.l1 (fun s h => s_AugAttr h) h
end
end Mine
end

section
open PySem PySem.W PySem.Calls PyProof.Rows
set_option Elab.async false
set_option maxRecDepth 100000
set_option linter.unusedVariables false
namespace Mine
theorem T.of {c : Cx} {H : List (Addr × O)} {P : Shared → Prop} {X : Prop} (f : ∀ s, St c H s → X → P s) (x : X) : T c H P := fun s S => f s S x
theorem T.both {c : Cx} {H : List (Addr × O)} {b : Bool} {P P' : Shared → Prop} (h : b = true → T c H P) (h' : b = false → T c H P') : T c H (fun s => (b = true → P s) ∧ (b = false → P' s)) := fun s S => ⟨fun q => h q s S, fun q => h' q s S⟩
theorem T.body {c : Cx} {k : Nat} {H : List (Addr × O)} {P : Around → Shared → Prop} (h : ∀ A, Room k A → T c H (P A)) : T c H (fun s => (∃ H₂, St c H₂ s) ∧ ∀ A, Room k A → P A s) := fun s S => ⟨⟨_, S⟩, fun A R => h A R s S⟩
theorem T.weak {c : Cx} {H H' : List (Addr × O)} {P : Shared → Prop} (f : ∀ s, St c H s → St c H' s) (h : T c H' P) : T c H P := fun s S => h s (f s S)
theorem T.un {c : Cx} {H : List (Addr × O)} {P : Shared → Prop} (h : T c H P) : ∀ s, St c H s → P s := h
theorem T.of2 {c : Cx} {H : List (Addr × O)} {P : Shared → Prop} {X Y : Prop} (f : ∀ s, St c H s → X → Y → P s) (x : X) (y : Y) : T c H P := fun s S => f s S x y
theorem T.comp {c : Cx} {A : Around} {H : List (Addr × O)} {it d : Addr} {P : Addr → Addr → List Addr → Shared → Prop} (hm : (it, O.liter d 0) ∈ H) (h : ∀ acc L, T c ((L, .ns []) :: (acc, .list []) :: H) (P acc L [])) :
    T c H (fun s => ∃ ia H', V.ref it = V.ref ia ∧ St c H' s ∧ ∀ acc L as s, as.length = ([] : List Str).length → St c (cellsH as ((L, .ns []) :: (acc, .list []) :: H')) s → iterV c A (.ref it) (fun it' s' => it' = .ref it ∧ s' = s) s ∧ P acc L as s) :=
  fun s S => ⟨it, H, rfl, S, fun acc L as s hl S' => by
    obtain rfl := len0 hl
    exact ⟨again_liter (St.has S' (.tail _ (.tail _ hm))) ⟨rfl, rfl⟩, h acc L s S'⟩⟩
theorem T.endV {c : Cx} {L : Addr} {m : List (Str × V)} {H H₂ : List (Addr × O)} {K : Shared → Prop} (d : DelH L (.ns m) H H₂) (h : T c H₂ K) : T c H (endV c L K) := fun s S => ⟨H, H₂, m, S, d, h⟩
theorem T.compS {c : Cx} {A : Around} {H : List (Addr × O)} {it : Addr} {x : List Nat} {P : Addr → Addr → List Addr → Shared → Prop} (hm : (it, O.siter x 0) ∈ H) (h : ∀ acc L, T c ((L, .ns []) :: (acc, .list []) :: H) (P acc L [])) :
    T c H (fun s => ∃ ia H', V.ref it = V.ref ia ∧ St c H' s ∧ ∀ acc L as s, as.length = ([] : List Str).length → St c (cellsH as ((L, .ns []) :: (acc, .list []) :: H')) s → iterV c A (.ref it) (fun it' s' => it' = .ref it ∧ s' = s) s ∧ P acc L as s) :=
  fun s S => ⟨it, H, rfl, S, fun acc L as s hl S' => by
    obtain rfl := len0 hl
    exact ⟨again_str (St.has S' (.tail _ (.tail _ hm))) ⟨rfl, rfl⟩, h acc L s S'⟩⟩
theorem T.compR {c : Cx} {A : Around} {H : List (Addr × O)} {it : Addr} {x l : Int} {P : Addr → Addr → List Addr → Shared → Prop} (hm : (it, O.raw (rit x l)) ∈ H) (h : ∀ acc L, T c ((L, .ns []) :: (acc, .list []) :: H) (P acc L [])) :
    T c H (fun s => ∃ ia H', V.ref it = V.ref ia ∧ St c H' s ∧ ∀ acc L as s, as.length = ([] : List Str).length → St c (cellsH as ((L, .ns []) :: (acc, .list []) :: H')) s → iterV c A (.ref it) (fun it' s' => it' = .ref it ∧ s' = s) s ∧ P acc L as s) :=
  fun s S => ⟨it, H, rfl, S, fun acc L as s hl S' => by
    obtain rfl := len0 hl
    exact ⟨again_rit (St.has S' (.tail _ (.tail _ hm))) ⟨rfl, rfl⟩, h acc L s S'⟩⟩
theorem T.asg {c : Cx} {H : List (Addr × O)} {t : Addr} {vs : List V} {n : Nat} {P : List V → Shared → Prop} (hm : (t, O.tup vs) ∈ H) (hl : n = vs.length) (h : T c H (P vs)) :
    T c H (fun s => ∃ t' vs' H', V.ref t = V.ref t' ∧ St c H' s ∧ Holds s.heap t' (.tup vs') ∧ n = vs'.length ∧ ∀ s, St c H' s → P vs' s) := fun s S => ⟨t, vs, H, rfl, S, St.has S hm, hl, h⟩
end Mine
end

section
set_option Elab.async false
set_option linter.unusedVariables false
namespace Mine
noncomputable def stp : List (List Int) → Nat → Nat
  | _, 0 => 1
  | [], _ + 1 => 1
  | r :: rs, n + 1 => (r.length + 1) * stp rs n
noncomputable def rowAt (rs : List (List Int)) (n : Nat) : List Int := (rs[n]?).getD []
noncomputable def edgeAt (r : List Int) (k : Nat) : Int := (r[k]?).getD 5
noncomputable def high (rs : List (List Int)) (p n : Nat) : Nat := p / stp rs n % ((rowAt rs n).length + 1)
theorem stp_pos : ∀ rs n, 0 < stp rs n
  | _, 0 => by simp [stp]
  | [], _ + 1 => by simp [stp]
  | r :: rs, n + 1 => by simp only [stp]; exact Nat.mul_pos (by omega) (stp_pos rs n)
theorem high_succ (r : List Int) (rs : List (List Int)) (p n : Nat) : high (r :: rs) p (n + 1) = high rs (p / (r.length + 1)) n := by
  simp only [high, stp, rowAt, Nat.div_div_eq_div_mul, List.getElem?_cons_succ]
theorem high_zero (r : List Int) (rs : List (List Int)) (p : Nat) : high (r :: rs) p 0 = p % (r.length + 1) := by
  simp [high, stp, rowAt]
theorem high_mul (rs : List (List Int)) (p n : Nat) : high rs p n * stp rs n ≤ p := by
  unfold high
  refine Nat.le_trans (Nat.mul_le_mul_right _ (Nat.mod_le _ _)) ?_
  exact Nat.div_mul_le_self _ _
section
variable (W : List Int → Int)
noncomputable def totR : List (List Int) → Nat → Int
  | [], _ => 0
  | r :: rs, p => W (r.take (p % (r.length + 1))) + totR rs (p / (r.length + 1))
theorem tot_move : ∀ (rs : List (List Int)) (p n k : Nat), n < rs.length → k < high rs p n →
    totR W rs (p - (high rs p n - k) * stp rs n) = totR W rs p - W ((rowAt rs n).take (high rs p n)) + W ((rowAt rs n).take k)
  | [], _, _, _, h, _ => by simp at h
  | r :: rs, p, 0, k, _, hk => by
    rw [high_zero] at hk ⊢
    have hb : p % (r.length + 1) < r.length + 1 := Nat.mod_lt _ (by omega)
    have h1 : p = (r.length + 1) * (p / (r.length + 1)) + p % (r.length + 1) := (Nat.div_add_mod _ _).symm
    have h2 : p - (p % (r.length + 1) - k) * stp (r :: rs) 0 = (r.length + 1) * (p / (r.length + 1)) + k := by simp only [stp]; omega
    have h3 : ((r.length + 1) * (p / (r.length + 1)) + k) % (r.length + 1) = k := by rw [Nat.mul_add_mod]; exact Nat.mod_eq_of_lt (by omega)
    have h4 : ((r.length + 1) * (p / (r.length + 1)) + k) / (r.length + 1) = p / (r.length + 1) := by
      rw [Nat.mul_add_div (by omega), Nat.div_eq_of_lt (by omega : k < r.length + 1)]; rfl
    rw [h2]
    simp only [totR, h3, h4, rowAt, List.getElem?_cons_zero, Option.getD_some]
    omega
  | r :: rs, p, n + 1, k, hn, hk => by
    rw [high_succ] at hk ⊢
    have ih := tot_move rs (p / (r.length + 1)) n k (by simpa using hn) hk
    have hm := high_mul rs (p / (r.length + 1)) n
    generalize hh : high rs (p / (r.length + 1)) n = hgh at *
    have hd : (hgh - k) * stp rs n ≤ p / (r.length + 1) := Nat.le_trans (Nat.mul_le_mul_right _ (Nat.sub_le _ _)) hm
    have e : (hgh - k) * stp (r :: rs) (n + 1) = (r.length + 1) * ((hgh - k) * stp rs n) := by
      simp only [stp]; rw [Nat.mul_left_comm]
    have hle : (r.length + 1) * ((hgh - k) * stp rs n) ≤ p := Nat.le_trans (Nat.mul_le_mul_left _ hd) (Nat.mul_div_le _ _)
    rw [e]
    have e1 : (p - (r.length + 1) * ((hgh - k) * stp rs n)) % (r.length + 1) = p % (r.length + 1) := Nat.sub_mul_mod hle
    have e2 : (p - (r.length + 1) * ((hgh - k) * stp rs n)) / (r.length + 1) = p / (r.length + 1) - (hgh - k) * stp rs n := Nat.sub_mul_div _ _ _
    simp only [totR, e1, e2, ih, rowAt, List.getElem?_cons_succ]
    omega
/-- what is asked of a row -/
noncomputable def RowOk (r : List Int) : Prop := ∀ h, h ≤ r.length →
  (∀ k, k < h → (edgeAt r k = 1 → W (r.take k) < W (r.take h)) ∧ (edgeAt r k = 0 → W (r.take h) < W (r.take k))) ∧
  ∃ u : Int, (u = 1 ∨ u = 2 ∨ u = 4) ∧ (∃ q, W (r.take h) = u * q) ∧ ((∃ k, k < h ∧ edgeAt r k = 1 ∧ W (r.take k) = W (r.take h) - u) ∨ (W (r.take h) ≤ 0 ∧ u = 4)) ∧ ((∃ k, k < h ∧ edgeAt r k = 0 ∧ W (r.take k) = W (r.take h) + u) ∨ (0 ≤ W (r.take h) ∧ u = 4))
noncomputable def Cut (rs : List (List Int)) (p : Nat) (m d : Int) : Prop := ∃ n k, n < rs.length ∧ k < high rs p n ∧ edgeAt (rowAt rs n) k = m ∧ W ((rowAt rs n).take k) = W ((rowAt rs n).take (high rs p n)) + d
theorem cut_zero {r : List Int} {rs : List (List Int)} {p k : Nat} {m d : Int} (h : k < p % (r.length + 1)) (e : edgeAt r k = m) (hw : W (r.take k) = W (r.take (p % (r.length + 1))) + d) : Cut W (r :: rs) p m d :=
  ⟨0, k, by simp, by rw [high_zero]; exact h, by simpa [rowAt] using e, by rw [high_zero]; simpa [rowAt] using hw⟩
theorem cut_succ {r : List Int} {rs : List (List Int)} {p : Nat} {m d : Int} (h : Cut W rs (p / (r.length + 1)) m d) : Cut W (r :: rs) p m d := by
  obtain ⟨n, k, h1, h2, h3, h4⟩ := h
  exact ⟨n + 1, k, by simpa using h1, by rw [high_succ]; exact h2, by simpa [rowAt] using h3, by rw [high_succ]; simpa [rowAt] using h4⟩
theorem sum_ok : ∀ (rs : List (List Int)), (∀ r ∈ rs, RowOk W r) → ∀ p, ∃ u : Int, (u = 1 ∨ u = 2 ∨ u = 4) ∧ (∃ q, totR W rs p = u * q) ∧ (Cut W rs p 1 (-u) ∨ (totR W rs p ≤ 0 ∧ u = 4)) ∧ (Cut W rs p 0 u ∨ (0 ≤ totR W rs p ∧ u = 4))
  | [], _, p => ⟨4, by omega, ⟨0, by simp [totR]⟩, .inr (by simp [totR]), .inr (by simp [totR])⟩
  | r :: rs, h, p => by
    obtain ⟨u', hu', ⟨q', hq'⟩, l', r'⟩ := sum_ok rs (fun x hx => h x (.tail _ hx)) (p / (r.length + 1))
    have hb : p % (r.length + 1) < r.length + 1 := Nat.mod_lt _ (by omega)
    obtain ⟨_, u, hu, ⟨q, hq⟩, lft, rgt⟩ := h r (.head _) (p % (r.length + 1)) (by omega)
    have et : totR W (r :: rs) p = W (r.take (p % (r.length + 1))) + totR W rs (p / (r.length + 1)) := rfl
    have lft' : Cut W (r :: rs) p 1 (-u) ∨ (W (r.take (p % (r.length + 1))) ≤ 0 ∧ u = 4) := by
      rcases lft with ⟨k, h1, h2, h3⟩ | x
      · exact .inl (cut_zero W h1 h2 (by omega))
      · exact .inr x
    have rgt' : Cut W (r :: rs) p 0 u ∨ (0 ≤ W (r.take (p % (r.length + 1))) ∧ u = 4) := by
      rcases rgt with ⟨k, h1, h2, h3⟩ | x
      · exact .inl (cut_zero W h1 h2 (by omega))
      · exact .inr x
    have l'' : Cut W (r :: rs) p 1 (-u') ∨ (totR W rs (p / (r.length + 1)) ≤ 0 ∧ u' = 4) := l'.imp (cut_succ W) id
    have r'' : Cut W (r :: rs) p 0 u' ∨ (0 ≤ totR W rs (p / (r.length + 1)) ∧ u' = 4) := r'.imp (cut_succ W) id
    clear lft rgt l' r'
    generalize totR W rs (p / (r.length + 1)) = T at *
    generalize W (r.take (p % (r.length + 1))) = X at *
    rw [et]
    by_cases hc : u ≤ u'
    · refine ⟨u, hu, ?_, ?_, ?_⟩
      · have : ∃ j, u' = u * j := by
          rcases hu with rfl | rfl | rfl <;> rcases hu' with rfl | rfl | rfl <;> first | exact ⟨1, by omega⟩ | exact ⟨2, by omega⟩ | exact ⟨4, by omega⟩ | omega
        obtain ⟨j, hj⟩ := this
        exact ⟨q + j * q', by rw [hq, hq', hj, Int.mul_add, Int.mul_assoc]⟩
      · rcases lft' with x | ⟨x, e4⟩
        · exact .inl x
        · have : u' = u := by omega
          rcases l'' with y | ⟨y, _⟩
          · rw [this] at y; exact .inl y
          · exact .inr ⟨by omega, e4⟩
      · rcases rgt' with x | ⟨x, e4⟩
        · exact .inl x
        · have : u' = u := by omega
          rcases r'' with y | ⟨y, _⟩
          · rw [this] at y; exact .inl y
          · exact .inr ⟨by omega, e4⟩
    · refine ⟨u', hu', ?_, ?_, ?_⟩
      · have : ∃ j, u = u' * j := by
          rcases hu with rfl | rfl | rfl <;> rcases hu' with rfl | rfl | rfl <;> first | exact ⟨1, by omega⟩ | exact ⟨2, by omega⟩ | exact ⟨4, by omega⟩ | omega
        obtain ⟨j, hj⟩ := this
        exact ⟨j * q + q', by rw [hq, hq', hj, Int.mul_add, Int.mul_assoc]⟩
      · rcases l'' with x | ⟨x, e4⟩
        · exact .inl x
        · omega
      · rcases r'' with x | ⟨x, e4⟩
        · exact .inl x
        · omega
theorem high_le (rs : List (List Int)) (p n : Nat) : high rs p n ≤ (rowAt rs n).length := by
  unfold high; have := Nat.mod_lt (p / stp rs n) (by omega : 0 < (rowAt rs n).length + 1); omega
theorem row_mem {rs : List (List Int)} {n : Nat} (h : n < rs.length) : rowAt rs n ∈ rs := by
  unfold rowAt; rw [List.getElem?_eq_getElem h]; exact List.getElem_mem h
/-- Left, who moves, wins just when the sum is positive -/
theorem won1 {rs : List (List Int)} (h : ∀ r ∈ rs, RowOk W r) (p : Nat) :
    (∃ n k, n < rs.length ∧ k < high rs p n ∧ edgeAt (rowAt rs n) k = 1 ∧ ¬ totR W rs (p - (high rs p n - k) * stp rs n) < 0) ↔ 0 < totR W rs p := by
  constructor
  · rintro ⟨n, k, hn, hk, he, hq⟩
    have m := (((h _ (row_mem hn)) _ (high_le rs p n)).1 k hk).1 he
    rw [tot_move W rs p n k hn hk] at hq
    omega
  · intro hp
    obtain ⟨u, hu, ⟨q, hq⟩, l, _⟩ := sum_ok W rs h p
    rcases l with ⟨n, k, hn, hk, he, hw⟩ | ⟨x, _⟩
    · refine ⟨n, k, hn, hk, he, ?_⟩
      rw [tot_move W rs p n k hn hk]
      have : u ≤ totR W rs p := by
        rcases hu with rfl | rfl | rfl <;> omega
      omega
    · omega
theorem won0 {rs : List (List Int)} (h : ∀ r ∈ rs, RowOk W r) (p : Nat) :
    (∃ n k, n < rs.length ∧ k < high rs p n ∧ edgeAt (rowAt rs n) k = 0 ∧ ¬ 0 < totR W rs (p - (high rs p n - k) * stp rs n)) ↔ totR W rs p < 0 := by
  constructor
  · rintro ⟨n, k, hn, hk, he, hq⟩
    have m := (((h _ (row_mem hn)) _ (high_le rs p n)).1 k hk).2 he
    rw [tot_move W rs p n k hn hk] at hq
    omega
  · intro hp
    obtain ⟨u, hu, ⟨q, hq⟩, _, l⟩ := sum_ok W rs h p
    rcases l with ⟨n, k, hn, hk, he, hw⟩ | ⟨x, _⟩
    · refine ⟨n, k, hn, hk, he, ?_⟩
      rw [tot_move W rs p n k hn hk]
      have : totR W rs p ≤ -u := by
        rcases hu with rfl | rfl | rfl <;> omega
      omega
    · omega
end
end Mine
end

section
open PySem PySem.W PySem.Calls PyProof.Rows
set_option maxHeartbeats 4000000
namespace Mine
set_option compiler.extract_closed false
local macro_rules | `(tactic| walk_at "mem") => `(tactic| first | assumption | exact List.Mem.head _ | (refine List.Mem.tail _ ?_; walk_at "mem") | exact List.mem_append_left _ (by assumption) | (refine List.mem_append_right _ ?_; walk_at "mem"))
local macro_rules | `(tactic| walk_at "upd") => `(tactic| first | exact UpdH.head | assumption | (apply UpdH.tail; walk_at "upd") | (apply UpdH.app; walk_at "upd"))
local macro_rules | `(tactic| walk_at "del") => `(tactic| first | exact DelH.head | (apply DelH.tail; walk_at "del") | (apply DelH.app; walk_at "del"))
local macro_rules | `(tactic| walk_at "setl") => `(tactic| first | exact SetL.head | (apply SetL.tail; walk_at "setl"))
local macro_rules | `(tactic| walk_at "addl") => `(tactic| first | exact AddL.nil | (apply AddL.cons; walk_at "addl"))
local macro_rules | `(tactic| walk_at "sub") => `(tactic| first | exact List.Sublist.refl _ | exact List.nil_sublist _ | (refine List.Sublist.cons_cons _ ?_; walk_at "sub") | (refine List.Sublist.cons _ ?_; walk_at "sub") | (refine List.Sublist.append_left ?_ _; walk_at "sub") | (refine List.Sublist.trans ?_ (List.sublist_append_right _ _); walk_at "sub"))
local macro_rules | `(tactic| walk_at "st") => `(tactic| first | assumption | (refine St.sub (by assumption) ?_; walk_at "sub"))
local macro_rules | `(tactic| walk_at "own") => `(tactic| first | assumption | (refine St.has (by assumption) ?_; walk_at "mem"))
local macro_rules | `(tactic| walk_at "look") => `(tactic| first | assumption | rfl | decide +kernel)
local macro_rules | `(tactic| walk_at "tn") => `(tactic| first
  | ((with_reducible refine' tl_local ?k ?m ?v ?kk ?_); (case k => decide +kernel); (case m => walk_at "mem"); (case v => walk_at "mem"); (case kk => rfl))
  | ((with_reducible refine' tl_cell ?k ?cc ?m ?kk ?_); (case k => decide +kernel); (case cc => walk_at "look"); (case m => walk_at "mem"); (case kk => rfl))
  | ((with_reducible refine' tl_free ?k ?cc ?m ?kk ?_); (case k => decide +kernel); (case cc => walk_at "look"); (case m => walk_at "mem"); (case kk => rfl))
  | ((with_reducible refine' tl_glob (by assumption) ?k ?v ?kk ?g ?_); (case k => decide +kernel); (case v => (unfold globTab; walk_at "mem")); (case kk => rfl); (case g => rfl))
  | ((with_reducible refine' tl_bi (by assumption) ?k ?v ?kk ?g ?b ?_); (case k => decide +kernel); (case v => (unfold biTab; walk_at "mem")); (case kk => rfl); (case g => rfl); (case b => rfl)))
local macro_rules | `(tactic| walk_at "ts") => `(tactic| first
  | ((with_reducible refine' ts_local (by assumption) ?k ?u ?w ?kk ?_); (case k => decide +kernel); (case u => walk_at "upd"); (case w => first | exact Or.inl (by walk_at "setl") | exact Or.inr ⟨nn (by kernel_rfl), AddL.eq (by walk_at "addl")⟩); (case kk => rfl))
  | ((with_reducible refine' ts_local1 (by assumption) (by assumption) ?k ?u ?w ?kk ?_); (case k => decide +kernel); (case u => walk_at "upd"); (case w => first | exact Or.inl (by walk_at "setl") | exact Or.inr ⟨nn (by kernel_rfl), AddL.eq (by walk_at "addl")⟩); (case kk => rfl))
  | ((with_reducible refine' ts_cell (by assumption) ?k ?cc ?u ?kk ?_); (case k => decide +kernel); (case cc => walk_at "look"); (case u => walk_at "upd"); (case kk => rfl))
  | ((with_reducible refine' ts_cell1 (by assumption) (by assumption) ?k ?cc ?u ?kk ?_); (case k => decide +kernel); (case cc => walk_at "look"); (case u => walk_at "upd"); (case kk => rfl)))
local macro_rules | `(tactic| walk_at "ti") => `(tactic| first
  | (with_reducible first
    | refine t_r_nil ?_
    | refine t_r_cons ?_
    | refine t_s_If ?_
    | refine t_s_Return ?_
    | refine t_s_Return0 ?_
    | refine t_s_Continue ?_
    | refine t_s_Aug ?_
    | refine t_e_int ?_
    | refine t_e_bool ?_
    | refine t_e_none ?_
    | refine t_e_str ?_
    | refine t_e_name ?_
    | refine t_e_BinOp ?_
    | refine t_e_Unary ?_
    | refine t_b_Not ?_
    | refine t_b_And ?_
    | refine t_e_IfExp ?_
    | refine t_e_Or ?_
    | refine t_e_Call ?_
    | refine t_e_List ?_
    | refine t_e_Tuple ?_
    | refine t_e_Sub ?_
    | refine t_a_nil ?_
    | refine t_g_nil ?_
    | refine t_w_bi0 ?_
    | refine t_w_ty0 ?_
    | refine t_w_fn0 ?_
    | refine t_w_bi1 ?_
    | refine t_w_fn1 ?_
    | refine t_o_add ?_
    | refine t_o_sub ?_
    | refine t_i_add ?_
    | refine t_i_sub ?_
    | refine t_u_neg ?_
    | refine t_u_inv ?_
    | refine t_c_eq ?_
    | refine t_c_ne ?_
    | refine t_c_lt ?_
    | refine t_c_gt ?_
    | refine t_c_le ?_
    | refine t_c_ge ?_
    | refine t_c_beq ?_
    | refine t_c_seq ?_
    | refine t_c_sin ?_
    | refine t_t_bool ?_
    | refine t_t_int ?_
    | refine t_m_bits ?_
    | refine t_k_bits4 ?_
    | refine t_k_bits ?_
    | refine t_k_abs ?_
    | refine t_e_SliceS ?_
    | refine t_p_none ?_
    | refine t_p_some ?_
    | refine t_m_join ?_
    | refine t_m_count ?_
    | refine t_s_Whl ?_
    | refine t_b_nil ?_
    | refine t_b_cons ?_
    | refine t_as_nil ?_
    | refine t_as_cons ?_)
  | ((with_reducible refine' t_s_Assign ?hh ?_); (case hh => rfl))
  | ((with_reducible refine' t_s_Expr ?h1 ?h2 ?_); (case h1 => rfl); (case h2 => rfl))
  | ((with_reducible refine' t_e_Cmp ?hh ?_); (case hh => rfl))
  | ((with_reducible refine' t_b_Cmp ?hh ?_); (case hh => rfl))
  | ((with_reducible refine' t_e_CallM ?hh ?_); (case hh => rfl))
  | ((with_reducible refine' t_b_val ?hh ?_); (case hh => rfl))
  | walk_at "tn"
  | walk_at "ts"
  | ((with_reducible refine' t_a_cons ?hh ?_); (case hh => rfl))
  | ((with_reducible refine' t_g_cons ?h1 ?h2 ?_); (case h1 => rfl); (case h2 => rfl))
  | ((with_reducible refine' t_o_shr ?h1 ?_); (case h1 => first | decide | omega))
  | ((with_reducible refine' t_o_mod ?h1 ?_); (case h1 => first | decide | omega))
  | ((with_reducible refine' t_o_div ?h1 ?h2 ?_); (case h1 => first | decide | omega); (case h2 => first | decide | omega))
  | ((with_reducible refine' t_o_shl ?h1 ?h2 ?h3 ?_); (case h1 => first | decide | omega); (case h2 => first | decide | omega); (case h3 => first | decide | omega))
  | ((with_reducible refine' t_o_pow ?h1 ?h2 ?h3 ?_); (case h1 => first | decide | omega); (case h2 => first | decide | omega); (case h3 => first | decide | omega))
  | ((with_reducible refine' t_o_mul ?h1 ?_); (case h1 => first | exact Or.inl (by first | decide | omega) | exact Or.inr (by first | decide | omega)))
  | ((with_reducible refine t_in_tok (by assumption) ?_))
  | ((with_reducible refine t_n_list (by simp) ?_); intro a')
  | ((with_reducible refine t_n_tup (by simp) ?_); intro a')
  | ((with_reducible refine' tk_len ?h1 ?h2 ?_); (case h1 => (intro s' S'; walk_at "own")); (case h2 => first | (simp; done) | (simp; omega)))
  | ((with_reducible refine' t_k_slen ?h2 ?_); (case h2 => omega))
  | ((with_reducible refine t_k_range1 ?_); intro a')
  | ((with_reducible refine t_k_range2 ?_); intro a')
  | ((with_reducible refine' tm_append ?hh ?_); (case hh => (intro s' S'; walk_at "own")))
  | ((with_reducible refine' tm_pop ?hh ?_); (case hh => (intro s' S'; walk_at "own")))
  | ((with_reducible refine' tm_reverse ?hh ?_); (case hh => (intro s' S'; walk_at "own")))
  | ((with_reducible refine' t_s_AssSub ?hh ?_); (case hh => rfl))
  | ((with_reducible refine' t_s_For ?hh ?_); (case hh => exact fun _ => rfl))
  | ((with_reducible refine T.all ?_); intro y' r'))
local macro_rules | `(tactic| walk_at "ti2") => `(tactic| first
  | ((with_reducible refine' t_e_Attr ?hh ?_); (case hh => rfl))
  | ((with_reducible refine' t_s_AssAttr ?hh ?_); (case hh => rfl))
  | (with_reducible refine t_s_AugAttr ?_)
  | ((with_reducible refine' ta_ins (by assumption) ?x ?d ?n ?l ?p ?_); (case x => walk_at "mem"); (case d => walk_at "mem"); (case n => first | with_reducible exact C94.n1 _ | with_reducible exact C94.n2 _ | with_reducible exact C94.n3 _ | with_reducible exact C94.n4 _); (case l => first | with_reducible exact lexD_1 | with_reducible exact lexD_2 | with_reducible exact lexD_3 | with_reducible exact lexD_4); (case p => exact trivial))
  | ((with_reducible refine' tm_ins (by assumption) ?x ?d ?n ?t ?l ?_); (case x => walk_at "mem"); (case d => walk_at "mem"); (case n => first | with_reducible exact C94.gt _ | with_reducible exact C94.rc _ | with_reducible exact C94.pt _); (case t => first | with_reducible exact C94.t84 _ | with_reducible exact C94.t77 _ | with_reducible exact C94.t91 _); (case l => first | with_reducible exact lexD_5 | with_reducible exact lexD_6 | with_reducible exact lexD_7))
  | walk_at "ti")

local macro_rules | `(tactic| walk_at "go") => `(tactic| ((try (with_reducible intro y' r')); (first | (refine T.run (by assumption) ?_; (repeat walk_at "ti"); intro s' S') | (dsimp only; refine T.run (by assumption) ?_; (repeat walk_at "ti"); intro s' S') | skip)))
local macro_rules | `(tactic| walk_at "go2") => `(tactic| ((try (with_reducible intro y' r')); (first | (refine T.run (by assumption) ?_; (repeat walk_at "ti2"); intro s' S') | (dsimp only; refine T.run (by assumption) ?_; (repeat walk_at "ti2"); intro s' S') | skip)))
section
noncomputable def d2i : List Int → Int → Int
  | [x], _ => x
  | [x, y], n => y * 2 ^ n.toNat + x
  | _, _ => 0
theorem d2i_ok {c : Cx} {A : Around} {s : Shared} {H : List (Addr × O)} {Q : V → Shared → Prop} {d : Addr} {xs : List Int} {n : Int} (G : Good c) (R : Room 3 A) (S : St c H s) (hm : (d, .list (xs.map V.int)) ∈ H) (hl : xs.length ≤ 2) (hx : ∀ x ∈ xs, 0 ≤ x ∧ x < 2 ^ 60)
    (hn : 0 ≤ n ∧ n ≤ 60) (h : ∀ s, St c H s → Q (.int (d2i xs n)) s) : callV c A (.ref 42) [.ref d, .int n] Q s := by
  refine call_top (cn := ["digits", "n", "inner"]) G S R rfl rfl rfl (by decide) (by decide) (binds2 (p := "digits") (p' := "n") fun _ _ => rfl) rfl rfl (by decide +kernel) ?_
  intro L as s A R' hl' S'
  obtain ⟨a1, a2, a3, rfl⟩ := len3 hl'
  simp only [zipC, cellsH] at *
  walk_at "go"
  refine ⟨⟨_, by assumption⟩, fun A R => ?_⟩
  walk_at "go"
  refine s_Def (cc := 41) (P := 37) (cl := [("n", a2), ("inner", a3), ("digits", a1)]) (fun _ => rfl) G (by assumption) (by decide) (by decide) rfl rfl G.heads.2.1 rfl (by intro q e _; unfold qualAt; rw [e]) (by kernel_rfl) rfl ?_
  intro f cd ct pm s S'
  obtain ⟨fdo, hfdo, S1⟩ : ∃ fdo, fdo = O.clo _ _ ∧ St c ((f, fdo) :: _) s := ⟨_, rfl, S'⟩
  clear S'
  have r0 : VR (.ref f) (.ref f) := rfl
  walk_at "go"
  -- one digit
  have inner1 : ∀ {H' : List (Addr × O)} {s : Shared} {A : Around} {Q' : V → Shared → Prop} {l r : Int} {v : V}, l + 1 = r → St c H' s → Room 1 A → (f, fdo) ∈ H' → (a1, O.cell (some (.ref d))) ∈ H' → (d, O.list (xs.map V.int)) ∈ H' → 0 ≤ l → l ≤ 2 → (xs.map V.int)[l.toNat]? = some v →
      (∀ s, St c H' s → Q' v s) → callV c A (.ref f) [.int l, .int r] Q' s := by
    intro H' s A Q' l r v hr S R hf h1 hd h0 h2 hx h
    rw [hfdo] at hf
    refine call_clo (cn := []) G S R hf (binds2 (p := "L") (p' := "R") fun _ _ => rfl) rfl rfl (by decide +kernel) ?_
    intro L as s A R' hl' S'
    obtain rfl := len0 hl'
    simp only [zipC, cellsH] at *
    walk_at "go"
    refine ⟨⟨_, by assumption⟩, fun A R => ?_⟩
    walk_at "go"
    refine ⟨fun _ => ?_, fun q => absurd hr (of_decide_eq_false q)⟩
    walk_at "go"
    refine sub_list (xs := xs.map V.int) (by walk_at "own") h0 (by omega) hx (fun _ _ => rfl) ?_
    exact h _ (by walk_at "st")
  have inner2 : ∀ {H' : List (Addr × O)} {s : Shared} {A : Around} {Q' : V → Shared → Prop} {x y : Int}, xs = [x, y] → St c H' s → Room 2 A → (f, fdo) ∈ H' → (a1, O.cell (some (.ref d))) ∈ H' → (a2, O.cell (some (.int n))) ∈ H' → (a3, O.cell (some (.ref f))) ∈ H' → (d, O.list (xs.map V.int)) ∈ H' →
      (∀ s, St c H' s → Q' (.int (y * 2 ^ n.toNat + x)) s) → callV c A (.ref f) [.int 0, .int 2] Q' s := by
    intro H' s A Q' x y e S R hf h1 h2 h3 hd h
    have hf' := hf
    rw [hfdo] at hf'
    refine call_clo (cn := []) G S R hf' (binds2 (p := "L") (p' := "R") fun _ _ => rfl) rfl rfl (by decide +kernel) ?_
    intro L as s A R' hl' S'
    obtain rfl := len0 hl'
    simp only [zipC, cellsH] at *
    walk_at "go"
    refine ⟨⟨_, by assumption⟩, fun A R => ?_⟩
    walk_at "go"
    refine ⟨fun q => absurd (of_decide_eq_true q) (by decide), fun _ => ?_⟩
    walk_at "go"
    refine ⟨fn_cloE hfdo (by assumption) (by walk_at "mem"), inner1 (l := 1) (v := .int y) rfl (by assumption) R (by walk_at "mem") (by walk_at "mem") (by walk_at "mem") (by decide) (by decide) (by rw [e]; rfl) ?_⟩
    intro s' S'
    have b1 : 0 ≤ (((0 : Int) + 2).fdiv (2 ^ Int.toNat 1) - 0) * n ∧ (((0 : Int) + 2).fdiv (2 ^ Int.toNat 1) - 0) * n = n := by
      have : ((0 : Int) + 2).fdiv (2 ^ Int.toNat 1) - 0 = 1 := by decide
      rw [this]; omega
    have b2 := hx y (by rw [e]; simp)
    walk_at "go"
    refine ⟨fn_cloE hfdo (by assumption) (by walk_at "mem"), inner1 (l := 0) (v := .int x) rfl (by assumption) R (by walk_at "mem") (by walk_at "mem") (by walk_at "mem") (by decide) (by decide) (by rw [e]; rfl) ?_⟩
    intro s' S'
    walk_at "go"
    rw [b1.2]
    exact h _ (by walk_at "st")
  -- the rest
  walk_at "go"
  refine t_list (xs := xs.map V.int) (by assumption) (by walk_at "own") (by simp; omega) ?_
  intro s' S'
  match xs, hl with
  | [], _ =>
    refine ⟨fun q => by simp at q, fun _ => ?_⟩
    walk_at "go"
    exact h _ (by walk_at "st")
  | [x], _ =>
    refine ⟨fun _ => ?_, fun q => by simp at q⟩
    walk_at "go"
    refine ⟨fn_cloE hfdo (by assumption) (by walk_at "mem"), inner1 (l := 0) (v := .int x) rfl (by assumption) (R.le (by decide)) (by walk_at "mem") (by walk_at "mem") (by walk_at "mem") (by decide) (by decide) rfl ?_⟩
    intro s' S'
    exact h _ (by walk_at "st")
  | [x, y], _ =>
    refine ⟨fun _ => ?_, fun q => by simp at q⟩
    walk_at "go"
    refine ⟨fn_cloE hfdo (by assumption) (by walk_at "mem"), inner2 rfl (by assumption) R (by walk_at "mem") (by walk_at "mem") (by walk_at "mem") (by walk_at "mem") (by walk_at "mem") ?_⟩
    intro s' S'
    exact h _ (by walk_at "st")
end
section
noncomputable def i2d (k : Nat) (a n : Int) : List Int :=
  if k = 1 then [a] else if k = 2 then [Builtin.bitXor a (a.fdiv (2 ^ n.toNat) * 2 ^ n.toNat), a.fdiv (2 ^ n.toNat)] else []
theorem i2d_ok {c : Cx} {A : Around} {s : Shared} {H : List (Addr × O)} {Q : V → Shared → Prop} {a n : Int} {k : Nat} (G : Good c) (R : Room 3 A) (S : St c H s) (hk : ((Builtin.Int.intBits a : Int) + n - 1).fdiv n = k) (hk2 : k ≤ 2) (hk0 : a = 0 ↔ k = 0) (ha : 0 ≤ a ∧ a < 2 ^ 60)
    (hn : 1 ≤ n ∧ n ≤ 60) (h : ∀ r s, St c ((r, .list ((i2d k a n).map V.int)) :: H) s → Q (.ref r) s) : callV c A (.ref 35) [.int a, .int n] Q s := by
  refine call_top (cn := ["n", "a_digits", "inner"]) G S R rfl rfl rfl (by decide) (by decide) (binds2 (p := "a") (p' := "n") fun _ _ => rfl) rfl rfl (by decide +kernel) ?_
  intro L as s A R' hl' S'
  obtain ⟨a1, a2, a3, rfl⟩ := len3 hl'
  simp only [zipC, cellsH] at *
  walk_at "go"
  refine ⟨⟨_, by assumption⟩, fun A R => ?_⟩
  walk_at "go"
  rw [hk]
  refine o_lmul (by assumption) (by walk_at "own") (by omega) ?_
  intro d s' S'
  walk_at "go"
  refine s_Def (cc := 34) (P := 30) (cl := [("n", a1), ("inner", a3), ("a_digits", a2)]) (fun _ => rfl) G (by assumption) (by decide) (by decide) rfl rfl G.heads.1 rfl (by intro q e _; unfold qualAt; rw [e]) (by kernel_rfl) rfl ?_
  intro f cd ct pm s S'
  obtain ⟨fdo, hfdo, S1⟩ : ∃ fdo, fdo = O.clo _ _ ∧ St c ((f, fdo) :: _) s := ⟨_, rfl, S'⟩
  clear S'
  have r0 : VR (.ref f) (.ref f) := rfl
  walk_at "go"
  have inner1 : ∀ {H' H'' : List (Addr × O)} {s : Shared} {A : Around} {Q' : V → Shared → Prop} {x l r : Int} {ys zs : List V}, l + 1 = r → St c H' s → Room 1 A → (f, fdo) ∈ H' → (a2, O.cell (some (.ref d))) ∈ H' → zs = ys.set l.toNat (.int x) → UpdH d (O.list ys) (O.list zs) H' H'' → 0 ≤ l → l < ys.length → l ≤ 2 →
      (∀ s, St c H'' s → Q' .none s) → callV c A (.ref f) [.int x, .int l, .int r] Q' s := by
    intro H' H'' s A Q' x l r ys zs hr S R hf h1 ez u h0 h2 h3 h
    subst ez
    rw [hfdo] at hf
    refine call_clo (cn := []) G S R hf (binds3 (p := "x") (p' := "L") (p'' := "R") fun _ _ _ => rfl) rfl rfl (by decide +kernel) ?_
    intro L as s A R' hl' S'
    obtain rfl := len0 hl'
    simp only [zipC, cellsH] at *
    walk_at "go"
    refine ⟨⟨_, by assumption⟩, fun A R => ?_⟩
    walk_at "go"
    refine ⟨fun _ => ?_, fun q => absurd hr (of_decide_eq_false q)⟩
    walk_at "go"
    refine set_at (xs := ys) (k := l) G (by assumption) (by walk_at "upd") h0 h2 (by omega) ?_
    intro s' S'
    walk_at "go"
    exact h _ (by walk_at "st")
  walk_at "go"
  refine ⟨fun q => ?_, fun q => ?_⟩
  · have hz : k ≠ 0 := fun e => (of_decide_eq_true q) (hk0.mpr e)
    walk_at "go"
    rcases (show k = 1 ∨ k = 2 by omega) with rfl | rfl
    · refine ⟨fn_cloE hfdo (by assumption) (by walk_at "mem"), inner1 (zs := [.int a]) rfl (by assumption) (R.le (by decide)) (by walk_at "mem") (by walk_at "mem") rfl (by walk_at "upd") (by decide) (by decide) (by decide) ?_⟩
      intro s' S'
      walk_at "go"
      exact h _ _ (by walk_at "st")
    · refine ⟨fn_cloE hfdo (by assumption) (by walk_at "mem"), ?_⟩
      refine call_clo (k := 1) (cn := []) G (by assumption) R (by rw [← hfdo]; walk_at "mem") (binds3 (p := "x") (p' := "L") (p'' := "R") fun _ _ _ => rfl) rfl rfl (by decide +kernel) ?_
      intro L as s A R' hl' S'
      obtain rfl := len0 hl'
      simp only [zipC, cellsH] at *
      walk_at "go"
      refine ⟨⟨_, by assumption⟩, fun A R => ?_⟩
      walk_at "go"
      refine ⟨fun q => absurd (of_decide_eq_true q) (by decide), fun _ => ?_⟩
      have sh : (((0 : Int) + ((List.replicate ((2 : Nat) : Int).toNat (V.int 0)).length : Int)).fdiv (2 ^ Int.toNat 1) - 0) * n = n := by
        have e1 : ((0 : Int) + ((List.replicate ((2 : Nat) : Int).toNat (V.int 0)).length : Int)).fdiv (2 ^ Int.toNat 1) = 1 := by decide
        rw [e1]; omega
      have b3 : (0 : Int) ≤ a.fdiv (2 ^ n.toNat) ∧ a.fdiv (2 ^ n.toNat) < 2 ^ 60 := by
        have hp : (0 : Int) < 2 ^ n.toNat := Int.pow_pos (by decide)
        rw [Int.fdiv_eq_ediv_of_nonneg _ (Int.le_of_lt hp)]
        exact ⟨Int.ediv_nonneg ha.1 (Int.le_of_lt hp), Int.lt_of_le_of_lt (Int.ediv_le_self _ ha.1) ha.2⟩
      walk_at "go"
      rw [sh]
      walk_at "go"
      refine o_xor (by assumption) ?_
      intro s' S'
      walk_at "go"
      refine ⟨fn_cloE hfdo (by assumption) (by walk_at "mem"), inner1 (zs := [.int (Builtin.bitXor a (a.fdiv (2 ^ n.toNat) * 2 ^ n.toNat)), .int 0]) (by decide) (by assumption) (R.le (by decide)) (by walk_at "mem") (by walk_at "mem") rfl (by walk_at "upd") (by decide) (by decide) (by decide) ?_⟩
      intro s' S'
      walk_at "go"
      refine ⟨fn_cloE hfdo (by assumption) (by walk_at "mem"), inner1 (ys := [.int (Builtin.bitXor a (a.fdiv (2 ^ n.toNat) * 2 ^ n.toNat)), .int 0]) (zs := [.int (Builtin.bitXor a (a.fdiv (2 ^ n.toNat) * 2 ^ n.toNat)), .int (a.fdiv (2 ^ n.toNat))]) (by decide) (by assumption) (R.le (by decide)) (by walk_at "mem") (by walk_at "mem") (by rw [sh]; rfl) (by walk_at "upd") (by decide) (by show (1 : Int) < 2; decide) (by decide) ?_⟩
      intro s' S'
      walk_at "go"
      exact h _ _ (by walk_at "st")
  · walk_at "go"
    have : k = 0 := hk0.mp (by have := of_decide_eq_false q; omega)
    subst this
    exact h _ _ (by walk_at "st")
end
section
theorem iseof_ok {c : Cx} {A : Around} {s : Shared} {H : List (Addr × O)} {Q : V → Shared → Prop} {x : Int} (G : Good c) (R : Room 1 A) (S : St c H s)
    (h : ∀ s, St c H s → Q (.bool (decide (x = 0))) s) : callV c A (.ref 115) [.int x] Q s := by
  refine call_top (cn := []) G S R rfl rfl rfl (by decide) (by decide) (binds1 (p := "x") fun _ => rfl) rfl rfl (by decide +kernel) ?_
  intro L as s A R' hl S'
  obtain rfl := len0 hl
  simp only [zipC, cellsH] at *
  refine T.run S' ?_
  clear S'
  repeat walk_at "ti"
  refine T.body fun A R => ?_
  repeat walk_at "ti"
  exact fun _ S => h _ (by walk_at "st")
theorem isnt_ok {c : Cx} {A : Around} {s : Shared} {H : List (Addr × O)} {Q : V → Shared → Prop} {x : Int} (G : Good c) (R : Room 1 A) (S : St c H s)
    (h : ∀ s, St c H s → Q (.bool (decide (256 ≤ x))) s) : callV c A (.ref 108) [.int x] Q s := by
  refine call_top (cn := []) G S R rfl rfl rfl (by decide) (by decide) (binds1 (p := "x") fun _ => rfl) rfl rfl (by decide +kernel) ?_
  intro L as s A R' hl S'
  obtain rfl := len0 hl
  simp only [zipC, cellsH] at *
  refine T.run S' ?_
  clear S'
  repeat walk_at "ti"
  refine T.body fun A R => ?_
  repeat walk_at "ti"
  exact fun _ S => h _ (by walk_at "st")
theorem intBits_small {a : Int} (h0 : 0 ≤ a) (h : a < 2 ^ 60) : (Builtin.Int.intBits a : Int) ≤ 64 := by
  have := intBits_le (a := a) (by omega : a.natAbs < 2 ^ 64)
  omega
theorem d21_ok {c : Cx} {A : Around} {s : Shared} {H : List (Addr × O)} {Q : V → Shared → Prop} {a b n : Int} (G : Good c) (R : Room 1 A) (S : St c H s) (ha : 0 ≤ a ∧ a < 2 ^ 60) (hb : 1 ≤ b ∧ b < 2 ^ 20) (hn : 0 ≤ n)
    (h : ∀ t s, St c ((t, .tup [.int (a.fdiv b), .int (a.fmod b)]) :: H) s → Q (.ref t) s) : callV c A (.ref 21) [.int a, .int b, .int n] Q s := by
  refine call_top (cn := []) G S R rfl rfl rfl (by decide) (by decide) (binds3 (p := "a") (p' := "b") (p'' := "n") fun _ _ _ => rfl) rfl rfl (by decide +kernel) ?_
  intro L as s A R' hl S'
  obtain rfl := len0 hl
  simp only [zipC, cellsH] at *
  refine T.run S' ?_
  clear S'
  repeat walk_at "ti"
  refine T.body fun A R => ?_
  repeat walk_at "ti"
  have := intBits_small ha.1 ha.2
  refine T.both (fun _ => ?_) (fun q => absurd (of_decide_eq_false q) (by omega))
  repeat walk_at "ti"
  refine T.l3 (fun _ S h => k_divmod S (by omega) (by omega) h) ?_
  intro t
  exact fun _ S => h _ _ (by walk_at "st")
end
section
noncomputable def nDig (a n : Int) : Nat := (((Builtin.Int.intBits a : Int) + n - 1).fdiv n).toNat
theorem dig24 : ∀ a : Fin 24, ((Builtin.Int.intBits ((a : Nat) : Int) : Int) + 3 - 1).fdiv 3 = nDig ((a : Nat) : Int) 3 ∧ nDig ((a : Nat) : Int) 3 ≤ 2 ∧ (((a : Nat) : Int) = 0 ↔ nDig ((a : Nat) : Int) 3 = 0) ∧
    (nDig ((a : Nat) : Int) 3 = 2 → ∀ hi lo : Int, hi = ((a : Nat) : Int).fdiv (2 ^ Int.toNat 3) → lo = Builtin.bitXor ((a : Nat) : Int) (((a : Nat) : Int).fdiv (2 ^ Int.toNat 3) * 2 ^ Int.toNat 3) →
      0 ≤ hi ∧ hi < 8 ∧ 0 ≤ lo ∧ lo < 8 ∧ ((0 * 2 ^ Int.toNat 3 + hi).fmod 4 * 2 ^ Int.toNat 3 + lo).fmod 4 = ((a : Nat) : Int).fmod 4 ∧ d2i [((0 * 2 ^ Int.toNat 3 + hi).fmod 4 * 2 ^ Int.toNat 3 + lo).fdiv 4, (0 * 2 ^ Int.toNat 3 + hi).fdiv 4] 3 = ((a : Nat) : Int).fdiv 4) := by
  intro a
  refine ⟨?_, ?_, ?_, ?_⟩
  · revert a; decide +kernel
  · revert a; decide +kernel
  · revert a; decide +kernel
  · intro h hi lo e1 e2
    subst e1 e2
    revert a; decide +kernel
theorem dmp_ok {c : Cx} {A : Around} {s : Shared} {H : List (Addr × O)} {Q : V → Shared → Prop} {a : Int} (G : Good c) (R : Room 4 A) (S : St c H s) (ha : 0 ≤ a ∧ a < 24)
    (h : ∀ t s, St c ((t, .tup [.int (a.fdiv 4), .int (a.fmod 4)]) :: H) s → Q (.ref t) s) : callV c A (.ref 49) [.int a, .int 4] Q s := by
  obtain ⟨hk, hk2, hk0, h2⟩ := dig24 ⟨a.toNat, by omega⟩
  simp only [Int.toNat_of_nonneg ha.1] at hk hk2 hk0 h2
  generalize nDig a 3 = k at hk hk2 hk0 h2
  refine call_top (cn := []) G S R rfl rfl rfl (by decide) (by decide) (binds2 (p := "a") (p' := "b") fun _ _ => rfl) rfl rfl (by decide +kernel) ?_
  intro L as s A R' hl S'
  obtain rfl := len0 hl
  simp only [zipC, cellsH] at *
  walk_at "go"
  refine ⟨⟨_, by assumption⟩, fun A R => ?_⟩
  walk_at "go"
  refine ⟨fn_old G (by assumption) rfl rfl (by decide), i2d_ok G R (by assumption) hk hk2 hk0 (by omega) (by decide) ?_⟩
  intro d s' S'
  walk_at "go"
  refine k_reversed (by assumption) (by walk_at "own") ?_
  intro it s' S'
  refine it_rev (by walk_at "own") ?_
  have hh : A.handled = none := R.handled
  rcases (show k = 0 ∨ k = 1 ∨ k = 2 by omega) with rfl | rfl | rfl
  · refine for_step ?_ ⟨_, rfl⟩
    refine nx_rev_end G hh (by assumption) (by walk_at "del") ?_
    intro s' S'
    walk_at "go"
    refine k_reverse (vs := []) G (by assumption) (by walk_at "upd") (by simp) ?_
    intro s' S'
    walk_at "go"
    refine ⟨fn_old G (by assumption) rfl rfl (by decide), d2i_ok (xs := []) G (R.le (by decide)) (by assumption) (by walk_at "mem") (by decide) (by simp) (by decide) ?_⟩
    intro s' S'
    walk_at "go"
    have : a = 0 := hk0.mpr rfl
    subst this
    exact h _ _ (by walk_at "st")
  · refine for_step ?_ ⟨_, rfl⟩
    refine nx_rev (i := 0) (v := .int a) (xs := [.int a]) G (by assumption) (by walk_at "upd") (by walk_at "own") rfl ?_
    intro s' S'
    walk_at "go"
    refine s_AssignT hh rfl rfl rfl ?_
    walk_at "go"
    refine ⟨fn_old G (by assumption) rfl rfl (by decide), d21_ok G (R.le (by decide)) (by assumption) (by simp; omega) (by decide) (by decide) ?_⟩
    intro t s' S'
    refine ⟨t, _, _, rfl, by assumption, by walk_at "own", rfl, fun s S => ?_⟩
    walk_at "go"
    refine k_append (xs := []) G (by assumption) (by walk_at "upd") (by decide) ?_
    intro s' S'
    walk_at "go"
    refine for_step ?_ ⟨_, rfl⟩
    refine nx_rev_end G hh (by assumption) (by walk_at "del") ?_
    intro s' S'
    walk_at "go"
    have e0 : (0 : Int) * 2 ^ Int.toNat 3 + a = a := by omega
    refine k_reverse (vs := [.int ((0 * 2 ^ Int.toNat 3 + a).fdiv 4)]) G (by assumption) (by walk_at "upd") (by simp) ?_
    intro s' S'
    walk_at "go"
    refine ⟨fn_old G (by assumption) rfl rfl (by decide), d2i_ok (xs := [(0 * 2 ^ Int.toNat 3 + a).fdiv 4]) G (R.le (by decide)) (by assumption) (by walk_at "mem") (by simp) ?_ (by decide) ?_⟩
    · rw [e0]
      intro x hx
      rw [List.mem_singleton] at hx
      subst hx
      rw [Int.fdiv_eq_ediv_of_nonneg _ (by decide)]
      omega
    intro s' S'
    walk_at "go"
    rw [← e0] at h
    exact h _ _ (by walk_at "st")
  · obtain ⟨b1, b2, b3, b4, f1, f2⟩ := h2 rfl _ _ rfl rfl
    have e : (i2d 2 a 3).map V.int = [.int (Builtin.bitXor a (a.fdiv (2 ^ Int.toNat 3) * 2 ^ Int.toNat 3)), .int (a.fdiv (2 ^ Int.toNat 3))] := rfl
    rw [e] at S'
    generalize Builtin.bitXor a (a.fdiv (2 ^ Int.toNat 3) * 2 ^ Int.toNat 3) = lo at b3 b4 f1 f2 S'
    generalize a.fdiv (2 ^ Int.toNat 3) = hi at b1 b2 f1 f2 S'
    have e0 : (0 : Int) * 2 ^ Int.toNat 3 + hi = hi := by omega
    have m0 : 0 ≤ (0 * 2 ^ Int.toNat 3 + hi).fmod 4 ∧ (0 * 2 ^ Int.toNat 3 + hi).fmod 4 < 4 := ⟨Int.fmod_nonneg_of_pos _ (by decide), Int.fmod_lt_of_pos _ (by decide)⟩
    have m1 : 0 ≤ (0 * 2 ^ Int.toNat 3 + hi).fdiv 4 ∧ (0 * 2 ^ Int.toNat 3 + hi).fdiv 4 < 8 := by rw [Int.fdiv_eq_ediv_of_nonneg _ (by decide)]; omega
    have e8 : (2 : Int) ^ Int.toNat 3 = 8 := rfl
    refine for_step ?_ ⟨_, rfl⟩
    refine nx_rev (i := 1) (v := .int hi) (xs := [.int lo, .int hi]) G (by assumption) (by walk_at "upd") (by walk_at "own") rfl ?_
    intro s' S'
    walk_at "go"
    refine s_AssignT hh rfl rfl rfl ?_
    walk_at "go"
    refine ⟨fn_old G (by assumption) rfl rfl (by decide), d21_ok G (R.le (by decide)) (by assumption) (by rw [e0]; omega) (by decide) (by decide) ?_⟩
    intro t s' S'
    refine ⟨t, _, _, rfl, by assumption, by walk_at "own", rfl, fun s S => ?_⟩
    walk_at "go"
    refine k_append (xs := []) G (by assumption) (by walk_at "upd") (by decide) ?_
    intro s' S'
    walk_at "go"
    refine for_step ?_ ⟨_, rfl⟩
    refine nx_rev (i := 0) (v := .int lo) (xs := [.int lo, .int hi]) G (by assumption) (by walk_at "upd") (by walk_at "own") rfl ?_
    intro s' S'
    walk_at "go"
    refine s_AssignT hh rfl rfl rfl ?_
    walk_at "go"
    refine ⟨fn_old G (by assumption) rfl rfl (by decide), d21_ok G (R.le (by decide)) (by assumption) (by have m0' := m0; rw [e8] at m0' ⊢; omega) (by decide) (by decide) ?_⟩
    intro t s' S'
    refine ⟨t, _, _, rfl, by assumption, by walk_at "own", rfl, fun s S => ?_⟩
    walk_at "go"
    refine k_append (xs := [_]) G (by assumption) (by walk_at "upd") (by simp) ?_
    intro s' S'
    walk_at "go"
    refine for_step ?_ ⟨_, rfl⟩
    refine nx_rev_end G hh (by assumption) (by walk_at "del") ?_
    intro s' S'
    walk_at "go"
    refine k_reverse (vs := [_, _]) G (by assumption) (by walk_at "upd") (by simp) ?_
    intro s' S'
    walk_at "go"
    refine ⟨fn_old G (by assumption) rfl rfl (by decide), d2i_ok (xs := [((0 * 2 ^ Int.toNat 3 + hi).fmod 4 * 2 ^ Int.toNat 3 + lo).fdiv 4, (0 * 2 ^ Int.toNat 3 + hi).fdiv 4]) G (R.le (by decide)) (by assumption) (by walk_at "mem") (by simp) ?_ (by decide) ?_⟩
    · intro x hx
      rcases List.mem_cons.mp hx with rfl | hx
      · have m0' := m0
        rw [e8] at m0'
        rw [Int.fdiv_eq_ediv_of_nonneg _ (by decide), e8]; omega
      · rw [List.mem_singleton] at hx
        subst hx; omega
    intro s' S'
    walk_at "go"
    rw [← f1, ← f2] at h
    exact h _ _ (by walk_at "st")
end
section
theorem idm_ok {c : Cx} {A : Around} {s : Shared} {H : List (Addr × O)} {Q : V → Shared → Prop} {a : Int} (G : Good c) (R : Room 6 A) (S : St c H s) (ha : -24 ≤ a ∧ a ≤ 0)
    (h : ∀ t s, St c ((t, .tup [.int (a.fdiv 4), .int (a.fmod 4)]) :: H) s → Q (.ref t) s) : callV c A (.ref 56) [.int a, .int 4] Q s := by
  have one : ∀ {A : Around} {s : Shared} {H : List (Addr × O)} {Q : V → Shared → Prop} {a : Int}, Room 5 A → St c H s → (0 ≤ a ∧ a < 24) →
      (∀ t s, St c ((t, .tup [.int (a.fdiv 4), .int (a.fmod 4)]) :: H) s → Q (.ref t) s) → callV c A (.ref 56) [.int a, .int 4] Q s := by
    intro A s H Q a R S ha h
    refine call_top (cn := []) G S R rfl rfl rfl (by decide) (by decide) (binds2 (p := "a") (p' := "b") fun _ _ => rfl) rfl rfl (by decide +kernel) ?_
    intro L as s A R' hl S'
    obtain rfl := len0 hl
    simp only [zipC, cellsH] at *
    refine T.run S' ?_
    clear S'
    repeat walk_at "ti"
    refine T.body fun A R => ?_
    repeat walk_at "ti"
    refine T.both (fun q => absurd (of_decide_eq_true q) (by decide)) (fun _ => ?_)
    repeat walk_at "ti"
    refine T.both (fun q => absurd (of_decide_eq_true q) (by decide)) (fun _ => ?_)
    repeat walk_at "ti"
    refine T.both (fun q => absurd (of_decide_eq_true q) (by omega)) (fun _ => ?_)
    repeat walk_at "ti"
    refine T.l3 (fun _ S h => ⟨fn_old G S rfl rfl (by decide), dmp_ok G R S ha h⟩) ?_
    intro t
    exact fun _ S => h _ _ (by walk_at "st")
  rcases (show a = 0 ∨ a < 0 by omega) with rfl | hn
  · exact one (R.le (by decide)) S (by decide) h
  refine call_top (cn := []) G S R rfl rfl rfl (by decide) (by decide) (binds2 (p := "a") (p' := "b") fun _ _ => rfl) rfl rfl (by decide +kernel) ?_
  intro L as s A R' hl S'
  obtain rfl := len0 hl
  simp only [zipC, cellsH] at *
  refine T.run S' ?_
  clear S'
  repeat walk_at "ti"
  refine T.body fun A R => ?_
  repeat walk_at "ti"
  refine T.both (fun q => absurd (of_decide_eq_true q) (by decide)) (fun _ => ?_)
  repeat walk_at "ti"
  refine T.both (fun q => absurd (of_decide_eq_true q) (by decide)) (fun _ => ?_)
  repeat walk_at "ti"
  refine T.both (fun _ => ?_) (fun q => absurd (of_decide_eq_false q) (by omega))
  walk_at "ti"
  have hh : A.handled = none := R.handled
  refine T.l1 (fun _ h => s_AssignT hh rfl rfl rfl h) ?_
  repeat walk_at "ti"
  refine T.l3 (fun _ S h => ⟨fn_old G S rfl rfl (by decide), one R S (by omega) h⟩) ?_
  intro t
  refine T.asg (by walk_at "mem") rfl ?_
  repeat walk_at "ti"
  have e1 : -((-a - 1).fdiv 4) - 1 = a.fdiv 4 := by
    rw [Int.fdiv_eq_ediv_of_nonneg _ (by decide), Int.fdiv_eq_ediv_of_nonneg _ (by decide)]; omega
  have e2 : 4 + (-((-a - 1).fmod 4) - 1) = a.fmod 4 := by
    rw [Int.fmod_eq_emod_of_nonneg _ (by decide), Int.fmod_eq_emod_of_nonneg _ (by decide)]; omega
  rw [← e1, ← e2] at h
  exact fun _ S => h _ _ (by walk_at "st")
end
section
noncomputable def ft (x0 : Int) : List Int → Nat
  | [] => 0
  | y :: r => if y = x0 then 1 + ft x0 r else 0
theorem ft_le (x0 : Int) : ∀ l, ft x0 l ≤ l.length
  | [] => Nat.le_refl _
  | y :: r => by
    unfold ft
    have := ft_le x0 r
    split <;> simp <;> omega
noncomputable def worthF (xs : List Int) : Int :=
  match xs with
  | [] => 0
  | x :: r =>
    let foot : Nat := ft x (x :: r)
    let size : Int := (x :: r).length - foot
    ((foot : Int) * (2 * x - 1) * 2 ^ size.toNat + (2 * d2i (((x :: r).drop foot).reverse) 1 - 2 ^ size.toNat + 1)) * 2 ^ (2 - size).toNat
noncomputable def Bits (xs : List Int) : Prop := ∀ x ∈ xs, x = 0 ∨ x = 1
noncomputable def Short (xs : List Int) : Prop := ∀ x r, xs = x :: r → xs.length ≤ ft x xs + 2
theorem pw2 {k : Int} (h : k ≤ 2) : ((2 : Int) ^ k.toNat).natAbs < 2 ^ 64 := by
  have : k.toNat = 0 ∨ k.toNat = 1 ∨ k.toNat = 2 := by omega
  rcases this with e | e | e <;> rw [e] <;> decide
theorem worth_ok {c : Cx} {A : Around} {s : Shared} {H : List (Addr × O)} {Q : V → Shared → Prop} {e : Addr} {xs : List Int} (G : Good c) (R : Room 5 A) (S : St c H s) (hm : (e, .list (xs.map V.int)) ∈ H) (hl : xs.length ≤ 100) (hb : Bits xs) (hs : Short xs)
    (h : ∀ s, St c H s → Q (.int (worthF xs)) s) : callV c A (.ref 144) [.ref e] Q s := by
  refine call_top (cn := []) G S R rfl rfl rfl (by decide) (by decide) (binds1 (p := "edges") fun _ => rfl) rfl rfl (by decide +kernel) ?_
  intro L as s A R' hl' S'
  obtain rfl := len0 hl'
  simp only [zipC, cellsH] at *
  walk_at "go"
  refine ⟨⟨_, by assumption⟩, fun A R => ?_⟩
  walk_at "go"
  refine c_ieq (xs := xs) (ys := []) (by have := R.units; omega) (by walk_at "own") (by walk_at "own") ?_
  walk_at "go"
  match xs, hm, hl, hb, hs, h with
  | [], hm, hl, hb, hs, h =>
    refine ⟨fun _ => ?_, fun q => by simp at q⟩
    walk_at "go"
    exact h _ (by walk_at "st")
  | x0 :: r, hm, hl, hb, hs, h =>
    refine ⟨fun q => by simp at q, fun _ => ?_⟩
    have hl2 : r.length ≤ 99 := by simpa using hl
    walk_at "go"
    refine whl_J (fun n s => ∃ pre ys, x0 :: r = pre ++ ys ∧ ys.length = n ∧ pre.length + ft x0 ys = ft x0 (x0 :: r) ∧ St c ((L, .ns [("edges", .ref e), ("foot", .int (pre.length : Nat))]) :: H) s) (fun s => St c ((L, .ns [("edges", .ref e), ("foot", .int (ft x0 (x0 :: r) : Nat))]) :: H) s) (x0 :: r).length ⟨[], x0 :: r, rfl, rfl, by simp, by walk_at "st"⟩ ?_ ?_
    · rintro n s ⟨pre, ys, e1, e2, e3, S'⟩
      have hlen : pre.length + ys.length = (x0 :: r).length := by rw [e1, List.length_append]
      walk_at "go"
      refine ⟨fun q => ?_, fun q => ?_⟩
      · have q := of_decide_eq_true q
        simp only [List.length_map] at q
        match ys, e1, e2, e3, hlen with
        | [], e1, e2, e3, hlen => simp at hlen q; omega
        | y :: ys, e1, e2, e3, hlen =>
          walk_at "go"
          refine sub_list (xs := (x0 :: r).map V.int) (v := .int y) (by walk_at "own") (by omega) (by omega) (by rw [e1]; simp) (fun _ _ => rfl) ?_
          walk_at "go"
          refine sub_list (xs := (x0 :: r).map V.int) (v := .int x0) (by walk_at "own") (by decide) (by decide) rfl (fun _ _ => rfl) ?_
          walk_at "go"
          refine ⟨fun q => ?_, fun q => ?_⟩
          · have q := of_decide_eq_true q
            subst q
            walk_at "go"
            refine ⟨ys.length, by rw [← e2]; simp, pre ++ [y], ys, by rw [e1]; simp, rfl, ?_, ?_⟩
            · rw [← e3]; simp [ft]; omega
            · rw [List.length_append]; walk_at "st"
          · have q := of_decide_eq_false q
            have e4 : pre.length = ft x0 (x0 :: r) := by rw [← e3]; simp [ft, q]
            rw [← e4]; walk_at "st"
      · have q := of_decide_eq_false q
        simp only [List.length_map] at q
        have : ys = [] := by
          cases ys with
          | nil => rfl
          | cons y ys => simp at hlen q; omega
        subst this
        have e4 : pre.length = ft x0 (x0 :: r) := by rw [← e3]; simp [ft]
        refine ⟨fun q => absurd q (by decide), fun _ => ?_⟩
        rw [← e4]; walk_at "st"
    · intro s S'
      have f1 := ft_le x0 (x0 :: r)
      have f2 := hs x0 r rfl
      have b0 := hb x0 (.head _)
      have hlm : ((List.map V.int (x0 :: r)).length : Int) = r.length + 1 := by simp
      generalize hf : ft x0 (x0 :: r) = foot at *
      have f1' : foot ≤ r.length + 1 := by simpa using f1
      have f2' : r.length + 1 ≤ foot + 2 := by simpa using f2
      walk_at "go"
      refine ⟨_, by assumption, fun x' s' S' => ?_⟩
      refine sub_from (xs := (x0 :: r).map V.int) (by assumption) (by walk_at "own") (by walk_at "own") (by omega) (by simp; omega) (fun _ _ => by first | exact Or.inl rfl | exact Or.inr rfl) ?_
      intro d1 s' S'
      walk_at "go"
      refine ⟨_, by assumption, fun x' s' S' => ?_⟩
      refine sub_rev (xs := ((x0 :: r).map V.int).drop foot) (by assumption) (by walk_at "own") (by walk_at "own") (by simp; omega) (fun _ _ => by first | exact Or.inl rfl | exact Or.inr rfl) ?_
      intro d2 s' S'
      have el : ((List.map V.int (x0 :: r)).drop foot).reverse = (((x0 :: r).drop foot).reverse).map V.int := by rw [← List.map_drop, List.map_reverse]
      rw [el] at S'
      generalize hds : ((x0 :: r).drop foot).reverse = ds at *
      have hdl : ds.length ≤ 2 := by rw [← hds, List.length_reverse, List.length_drop]; omega
      have hdb : ∀ x ∈ ds, 0 ≤ x ∧ x < 2 ^ 60 := fun x hx => by
        rw [← hds] at hx
        have := hb x (List.mem_of_mem_drop (List.mem_reverse.mp hx))
        omega
      walk_at "go"
      refine ⟨fn_old G (by assumption) rfl rfl (by decide), d2i_ok (xs := ds) G (R.le (by decide)) (by assumption) (by walk_at "mem") hdl hdb (by decide) ?_⟩
      intro s' S'
      walk_at "go"
      refine sub_list (xs := (x0 :: r).map V.int) (v := .int x0) (by walk_at "own") (by decide) (by decide) rfl (fun _ _ => rfl) ?_
      have hw : worthF (x0 :: r) = ((foot : Int) * (2 * x0 - 1) * 2 ^ (((List.map V.int (x0 :: r)).length : Int) - foot).toNat + (2 * d2i ds 1 - 2 ^ (((List.map V.int (x0 :: r)).length : Int) - foot).toNat + 1)) * 2 ^ (2 - (((List.map V.int (x0 :: r)).length : Int) - foot)).toNat := by
        simp only [worthF, hf, hds, List.length_map]
      rw [hw] at h
      walk_at "go"
      refine o_mul (by assumption) (Or.inr (pw2 (by omega))) ?_
      intro s' S'
      walk_at "go"
      refine o_mul (by assumption) (Or.inr (pw2 (by omega))) ?_
      intro s' S'
      exact h _ (by walk_at "st")
end
section
theorem negabs (w : Int) (h : -24 ≤ w ∧ w ≤ 24) : -24 ≤ -(if w < 0 then -w else w) ∧ -(if w < 0 then -w else w) ≤ 0 := by split <;> omega
noncomputable def red : Nat → Int → Int × Nat
  | 0, r => (r, 0)
  | n + 1, r => if r.fmod 2 = 0 then red n (r.fdiv 2) else (r, n + 1)
noncomputable def midF (r : Int) : Int := ((red 2 r).1 + 2 ^ (((red 2 r).2 : Nat) : Int).toNat - 1).fdiv 2
noncomputable def edgesF (w : Int) : List Int :=
  let a := -(if w < 0 then -w else w)
  List.replicate (-(a.fdiv 4)).toNat 1 ++ ((i2d (nDig (midF (a.fmod 4)) 1) (midF (a.fmod 4)) 1).reverse.map fun b => 1 - b)
noncomputable def stalkF (w : Int) : List Nat := (edgesF w).flatMap fun e => if (decide (e = 1) == decide (0 < w)) = true then [43] else [45]
theorem red4 : ∀ r : Fin 4, 0 ≤ (red 2 ((r : Nat) : Int)).1 ∧ (red 2 ((r : Nat) : Int)).1 ≤ 3 ∧ (red 2 ((r : Nat) : Int)).2 ≤ 2 ∧ 0 ≤ midF ((r : Nat) : Int) ∧ midF ((r : Nat) : Int) ≤ 3 ∧
    ((Builtin.Int.intBits (midF ((r : Nat) : Int)) : Int) + 1 - 1).fdiv 1 = nDig (midF ((r : Nat) : Int)) 1 ∧ nDig (midF ((r : Nat) : Int)) 1 ≤ 2 ∧ (midF ((r : Nat) : Int) = 0 ↔ nDig (midF ((r : Nat) : Int)) 1 = 0) := by decide +kernel
theorem flat1 (p : Int → Bool) : ∀ es : List Int, (es.map fun e => if p e = true then [43] else [45]).flatten.length = es.length
  | [] => rfl
  | e :: es => by
    have := flat1 p es
    rw [List.map_cons, List.flatten_cons, List.length_append, this]
    split <;> simp <;> omega
theorem stalk_ok {c : Cx} {A : Around} {s : Shared} {H : List (Addr × O)} {Q : V → Shared → Prop} {w : Int} (G : Good c) (R : Room 8 A) (S : St c H s) (hw : -24 ≤ w ∧ w ≤ 24)
    (h : ∀ s, St c H s → Q (.str (stalkF w)) s) : callV c A (.ref 149) [.int w] Q s := by
  refine call_top (cn := ["worth"]) G S R rfl rfl rfl (by decide) (by decide) (binds1 (p := "worth") fun _ => rfl) rfl rfl (by decide +kernel) ?_
  intro L as s A R' hl' S'
  obtain ⟨a1, rfl⟩ := len1 hl'
  simp only [zipC, cellsH] at *
  walk_at "go"
  refine ⟨⟨_, by assumption⟩, fun A R => ?_⟩
  walk_at "go"
  have hh : A.handled = none := R.handled
  refine s_AssignT hh rfl rfl rfl ?_
  walk_at "go"
  refine ⟨fn_old G (by assumption) rfl rfl (by decide), idm_ok G (R.le (by decide)) (by assumption) (negabs w hw) ?_⟩
  intro t s' S'
  refine ⟨t, _, _, rfl, by assumption, by walk_at "own", rfl, fun s S => ?_⟩
  walk_at "go"
  generalize hA : -(if w < 0 then -w else w) = a at *
  have ha := negabs w hw
  rw [hA] at ha
  have hr : 0 ≤ a.fmod 4 ∧ a.fmod 4 < 4 := ⟨Int.fmod_nonneg_of_pos _ (by decide), Int.fmod_lt_of_pos _ (by decide)⟩
  have hq : -6 ≤ a.fdiv 4 ∧ a.fdiv 4 ≤ 0 := by rw [Int.fdiv_eq_ediv_of_nonneg _ (by decide)]; omega
  have h4 := red4 ⟨(a.fmod 4).toNat, by omega⟩
  simp only [Int.toNat_of_nonneg hr.1] at h4
  have hE : edgesF w = List.replicate (-(a.fdiv 4)).toNat 1 ++ ((i2d (nDig (midF (a.fmod 4)) 1) (midF (a.fmod 4)) 1).reverse.map fun b => 1 - b) := by simp only [edgesF, hA]
  unfold stalkF at h
  rw [hE] at h
  clear hE
  generalize a.fdiv 4 = below at *
  generalize a.fmod 4 = rest at *
  refine whl_J (fun n s => ∃ r, red n r = red 2 rest ∧ 0 ≤ r ∧ r ≤ 3 ∧ St c ((a1, .cell (some (.int w))) :: (L, .ns [("below", .int below), ("rest", .int r), ("size", .int (n : Nat))]) :: H) s)
    (fun s => St c ((a1, .cell (some (.int w))) :: (L, .ns [("below", .int below), ("rest", .int (red 2 rest).1), ("size", .int ((red 2 rest).2 : Nat))]) :: H) s) 2 ⟨rest, rfl, hr.1, by omega, by walk_at "st"⟩ ?_ ?_
  · rintro n s ⟨r, e1, e2, e3, S'⟩
    walk_at "go"
    refine ⟨fun q => ?_, fun q => ⟨fun q' => absurd q' (by decide), fun _ => ?_⟩⟩
    · have q := of_decide_eq_true q
      obtain ⟨n, rfl⟩ : ∃ k, n = k + 1 := ⟨n - 1, by omega⟩
      walk_at "go"
      refine ⟨fun q => ?_, fun q => ?_⟩
      · have q := of_decide_eq_true q
        walk_at "go"
        refine ⟨n, by omega, r.fdiv 2, ?_, ?_, ?_, ?_⟩
        · rw [← e1]; simp [red, q]
        · rw [Int.fdiv_eq_ediv_of_nonneg _ (by decide)]; omega
        · rw [Int.fdiv_eq_ediv_of_nonneg _ (by decide)]; omega
        · rw [show ((n : Nat) : Int) = ((n + 1 : Nat) : Int) - 1 by omega]; walk_at "st"
      · have q := of_decide_eq_false q
        rw [← e1]
        simp only [red, if_neg q]
        walk_at "st"
    · have q := of_decide_eq_false q
      obtain rfl : n = 0 := by omega
      rw [← e1]
      walk_at "st"
  · intro s S'
    obtain ⟨b1, b2, b3, b4, b5, b6, b7, b8⟩ := h4
    walk_at "go"
    refine ⟨fn_old G (by assumption) rfl rfl (by decide), i2d_ok (a := midF rest) (k := nDig (midF rest) 1) G (R.le (by decide)) (by assumption) b6 b7 b8 (by omega) (by decide) ?_⟩
    intro bt s' S'
    generalize hbs : i2d (nDig (midF rest) 1) (midF rest) 1 = bs at *
    have hbl : bs.length ≤ 2 := by
      rw [← hbs]; unfold i2d; split
      · simp
      · split <;> simp
    walk_at "go"
    refine o_lmul (by assumption) (by walk_at "own") (by omega) ?_
    intro d1 s' S'
    walk_at "go"
    refine e_CompM (cn := []) (cl := []) G (fun _ => rfl) (by kernel_rfl) rfl (by decide +kernel) (by decide +kernel) ?_
    walk_at "go"
    refine ⟨_, by assumption, fun x' s' S' => ?_⟩
    refine sub_rev (xs := bs.map V.int) (by assumption) (by walk_at "own") (by walk_at "own") (by simp; omega) (fun _ _ => by first | exact Or.inl rfl | exact Or.inr rfl) ?_
    intro d2 s' S'
    rw [← List.map_reverse] at S'
    refine it_list (xs := bs.reverse.map V.int) (by assumption) (by walk_at "own") ?_
    intro it s' S'
    refine ⟨it, _, rfl, S', ?_⟩
    intro acc L2 as s hl S'
    obtain rfl := len0 hl
    simp only [zipC, cellsH] at *
    refine ⟨again_liter (by walk_at "own") ⟨rfl, rfl⟩, ?_⟩
    refine comp_map (xs := bs.reverse.map V.int) (fun v => match v with | .int b => .int (1 - b) | v => v) G hh rfl (by decide +kernel) (by walk_at "mem") (by simp; omega) S' ?_ ?_
    · intro v hv ys i s Q' S' h
      obtain ⟨b, _, rfl⟩ := List.mem_map.mp hv
      walk_at "go"
      exact h _ (by walk_at "st")
    intro s m S'
    refine ⟨_, _, m, S', .head, ?_⟩
    intro s S'
    rw [List.map_map] at S'
    walk_at "go"
    refine o_ladd (by assumption) (by walk_at "own") (by walk_at "own") (by simp; omega) ?_
    intro d3 s' S'
    have hx : List.replicate (-below).toNat (V.int 1) ++ List.map ((fun v => match v with | .int b => .int (1 - b) | v => v) ∘ V.int) bs.reverse = (List.replicate (-below).toNat 1 ++ bs.reverse.map fun b => 1 - b).map V.int := by
      rw [List.map_append, List.map_replicate, List.map_map]; rfl
    rw [hx] at S'
    have hxl : (List.replicate (-below).toNat 1 ++ bs.reverse.map fun b => 1 - b).length ≤ 10 := by simp; omega
    generalize (List.replicate (-below).toNat 1 ++ bs.reverse.map fun b => 1 - b) = es at *
    walk_at "go"
    refine e_CompM (cn := []) (cl := [("worth", a1)]) G (fun _ => rfl) (by kernel_rfl) rfl (by decide +kernel) (by decide +kernel) ?_
    walk_at "go"
    refine it_list (xs := es.map V.int) (by assumption) (by walk_at "own") ?_
    intro it s' S'
    refine ⟨it, _, rfl, S', ?_⟩
    intro acc L2 as s hl S'
    obtain rfl := len0 hl
    simp only [zipC, cellsH] at *
    refine ⟨again_liter (by walk_at "own") ⟨rfl, rfl⟩, ?_⟩
    refine comp_map (xs := es.map V.int) (fun v => match v with | .int e => .str (if (decide (e = 1) == decide (0 < w)) = true then [43] else [45]) | v => v) G hh rfl (by decide +kernel) (by walk_at "mem") (by simp; omega) S' ?_ ?_
    · intro v hv ys i s Q' S' h
      obtain ⟨e, _, rfl⟩ := List.mem_map.mp hv
      walk_at "go"
      refine ⟨fun q => ?_, fun q => ?_⟩
      · walk_at "go"
        have := h _ (by assumption)
        simp only [q, if_true] at this
        exact this
      · walk_at "go"
        have := h _ (by assumption)
        simp only [q] at this
        exact this
    intro s m S'
    refine ⟨_, _, m, S', .head, ?_⟩
    intro s S'
    rw [List.map_map] at S'
    have hj : List.map ((fun v => match v with | .int e => .str (if (decide (e = 1) == decide (0 < w)) = true then [43] else [45]) | v => v) ∘ V.int) es = (es.map fun e => if (decide (e = 1) == decide (0 < w)) = true then [43] else [45]).map V.str := by
      rw [List.map_map]; rfl
    rw [hj] at S'
    walk_at "go"
    refine k_join (by assumption) (by walk_at "own") ?_ ?_
    · rw [flat1 (fun e => decide (e = 1) == decide (0 < w))]; omega
    intro s' S'
    exact h _ (by walk_at "st")
end
section
noncomputable def szs (w : List Nat) (i : Nat) : List Int := ([1, 2, 3] : List Int).filter fun k => (tokTab.lookup ((w.drop i).take k.toNat)).isSome
noncomputable def edgesB (w : List Nat) : Nat → Nat → Option (List Int)
  | 0, i => if w.length ≤ i then some [] else none
  | n + 1, i => if w.length ≤ i then some [] else
    if szs w i = [] then none else if maxI (szs w i) ≤ 0 then none else
    match tokTab.lookup ((w.drop i).take (maxI (szs w i)).toNat) with
    | none => none
    | some t => (edgesB w n (i + (maxI (szs w i)).toNat)).map fun es => (1 - t.fmod 2) :: es
theorem mx3 (w : List Nat) (i : Nat) (h : szs w i ≠ []) : maxI (szs w i) ≤ 3 := by
  unfold szs at h ⊢
  simp only [List.filter_cons, List.filter_nil] at h ⊢
  split at h <;> split at h <;> split at h <;> (try rename_i a b d; simp only [a, b, d, if_true]) <;> first | decide | exact absurd rfl h | skip
  all_goals (simp_all <;> decide)
theorem edges_ok {c : Cx} {A : Around} {s : Shared} {H : List (Addr × O)} {Q : V → Shared → Prop} {w : List Nat} {n : Nat} {es : List Int} (G : Good c) (R : Room 2 A) (S : St c H s) (hl : w.length ≤ 1000) (he : edgesB w n 0 = some es) (hn : n ≤ 1000)
    (h : ∀ r s, St c ((r, .list (es.map V.int)) :: H) s → Q (.ref r) s) : callV c A (.ref 137) [.str w] Q s := by
  refine call_top (cn := ["word", "at"]) G S R rfl rfl rfl (by decide) (by decide) (binds1 (p := "word") fun _ => rfl) rfl rfl (by decide +kernel) ?_
  intro L as s A R' hl' S'
  obtain ⟨a1, a2, rfl⟩ := len2 hl'
  simp only [zipC, cellsH] at *
  walk_at "go"
  refine ⟨⟨_, by assumption⟩, fun A R => ?_⟩
  have hh : A.handled = none := R.handled
  walk_at "go"
  refine whl_J (fun k s => ∃ ea i pre rest, edgesB w k i = some rest ∧ pre ++ rest = es ∧ k ≤ 1000 ∧ pre.length + k ≤ 1000 ∧ i ≤ 10000000 - 3 * k ∧ St c ((ea, .list (pre.map V.int)) :: (a2, .cell (some (.int (i : Nat)))) :: (a1, .cell (some (.str w))) :: (L, .ns [("edges", .ref ea)]) :: H) s)
    (fun s => ∃ ea, St c ((ea, .list (es.map V.int)) :: (L, .ns [("edges", .ref ea)]) :: H) s) n ⟨_, 0, [], es, he, rfl, hn, by simpa using hn, by omega, by walk_at "st"⟩ ?_ ?_
  · rintro k s ⟨ea, i, pre, rest, e1, e2, e3, e4, e5, S'⟩
    walk_at "go"
    refine ⟨fun q => ?_, fun q => ?_⟩
    · have q := of_decide_eq_true q
      have q' : ¬ w.length ≤ i := by omega
      cases k with
      | zero => simp [edgesB, q'] at e1
      | succ k =>
      rw [edgesB, if_neg q'] at e1
      split at e1
      · cases e1
      rename_i hz
      split at e1
      · cases e1
      rename_i hz2
      split at e1
      · cases e1
      rename_i t ht
      obtain ⟨rest', e6, e7⟩ := Option.map_eq_some_iff.mp e1
      subst e7
      walk_at "go"
      refine e_CompM (cn := []) (cl := [("word", a1), ("at", a2)]) G (fun _ => rfl) (by kernel_rfl) rfl (by decide +kernel) (by decide +kernel) ?_
      walk_at "go"
      refine it_range (by assumption) (by walk_at "own") (by decide) (by decide) ?_
      intro it s' S'
      refine ⟨it, _, rfl, S', ?_⟩
      intro acc L2 as s hl S'
      obtain rfl := len0 hl
      simp only [zipC, cellsH] at *
      refine ⟨again_rit (by walk_at "own") ⟨rfl, rfl⟩, ?_⟩
      refine comp_fltR (a := 1) (n := 3) (fun k => (tokTab.lookup ((w.drop i).take k.toNat)).isSome) G hh rfl (by decide +kernel) (by decide +kernel) (by decide) S' ?_ ?_
      · intro j hj ys o s Q' S' h
        walk_at "go"
        refine ⟨_, by assumption, fun x' s' S' => ?_⟩
        refine sub_str (by assumption) (by walk_at "own") (by omega) (by omega) (by omega) (fun _ _ => by first | exact Or.inl rfl | exact Or.inr rfl) ?_
        intro s' S'
        walk_at "go"
        have ek : ((i : Int) + (1 + (j : Int)) - i).toNat = (1 + (j : Int)).toNat := by omega
        rw [Int.toNat_natCast, ek]
        exact h _ (by walk_at "st")
      intro s m S'
      refine ⟨_, _, m, S', .head, ?_⟩
      intro s S'
      have hsz : (((List.range 3).map fun i : Nat => (1 : Int) + (i : Int)).filter fun k => (tokTab.lookup ((w.drop i).take k.toNat)).isSome) = szs w i := rfl
      rw [hsz] at S'
      walk_at "go"
      have hmx : maxI (szs w i) ≤ 3 := mx3 w i hz
      refine k_max hh (by assumption) (by walk_at "own") (List.length_pos_iff.mpr hz) ?_
      intro s' S'
      generalize maxI (szs w i) = mx at *
      walk_at "go"
      refine ⟨_, by assumption, fun x' s' S' => ?_⟩
      refine sub_str (by assumption) (by walk_at "own") (by omega) (by omega) (by omega) (fun _ _ => by first | exact Or.inl rfl | exact Or.inr rfl) ?_
      intro s' S'
      have ek : ((i : Int) + mx - i).toNat = mx.toNat := by omega
      rw [Int.toNat_natCast, ek]
      refine sub_tok G (by assumption) ht (fun _ _ => rfl) ?_
      intro s' S'
      walk_at "go"
      refine k_append (xs := pre.map V.int) G (by assumption) (by walk_at "upd") (by simp; omega) ?_
      intro s' S'
      walk_at "go"
      refine ⟨k, by omega, ea, i + mx.toNat, pre ++ [1 - t.fmod 2], rest', e6, by rw [← e2]; simp, by omega, by simp; omega, by omega, ?_⟩
      have ec : ((i + mx.toNat : Nat) : Int) = (i : Int) + mx := by omega
      rw [ec, List.map_append]
      refine St.forget (m := [("edges", .ref ea), ("size", .int mx)]) G (St.sub (by assumption) ?_) (by walk_at "upd") (List.Sublist.cons_cons _ (List.nil_sublist _))
      walk_at "sub"
    · have q := of_decide_eq_false q
      have q' : w.length ≤ i := by omega
      have : rest = [] := by cases k <;> simp [edgesB, q'] at e1 <;> exact e1
      subst this
      rw [List.append_nil] at e2
      subst e2
      exact ⟨ea, by walk_at "st"⟩
  · rintro s ⟨ea, S'⟩
    walk_at "go"
    exact h _ _ (by walk_at "st")
end
section
open PySem
set_option Elab.async false
set_option maxRecDepth 100000
set_option linter.unusedVariables false
noncomputable def rowOkB (r : List Int) : Bool := (List.range (r.length + 1)).all fun h =>
  ((List.range h).all fun k => (!decide (edgeAt r k = 1) || decide (worthF (r.take k) < worthF (r.take h))) && (!decide (edgeAt r k = 0) || decide (worthF (r.take h) < worthF (r.take k)))) &&
  ([1, 2, 4] : List Int).any fun u => decide (worthF (r.take h) = u * (worthF (r.take h) / u)) &&
    (((List.range h).any fun k => decide (edgeAt r k = 1) && decide (worthF (r.take k) = worthF (r.take h) - u)) || (decide (worthF (r.take h) ≤ 0) && decide (u = 4))) &&
    (((List.range h).any fun k => decide (edgeAt r k = 0) && decide (worthF (r.take k) = worthF (r.take h) + u)) || (decide (0 ≤ worthF (r.take h)) && decide (u = 4)))
theorem rowOk_of {r : List Int} (h : rowOkB r = true) : RowOk worthF r := by
  intro hh hl
  have h1 := List.all_eq_true.mp h hh (List.mem_range.mpr (by omega))
  obtain ⟨a, b⟩ := Bool.and_eq_true_iff.mp h1
  refine ⟨fun k hk => ?_, ?_⟩
  · have := List.all_eq_true.mp a k (List.mem_range.mpr hk)
    simp only [Bool.and_eq_true, Bool.or_eq_true, Bool.not_eq_true', decide_eq_false_iff_not, decide_eq_true_eq] at this
    exact ⟨fun e => this.1.resolve_left (fun n => n e), fun e => this.2.resolve_left (fun n => n e)⟩
  · obtain ⟨u, hu, e⟩ := List.any_eq_true.mp b
    simp only [Bool.and_eq_true, Bool.or_eq_true, decide_eq_true_eq, List.any_eq_true, List.mem_range] at e
    obtain ⟨⟨e1, e2⟩, e3⟩ := e
    refine ⟨u, by simpa using hu, ⟨_, e1⟩, ?_, ?_⟩
    · rcases e2 with ⟨k, h1, h2, h3⟩ | x
      · exact .inl ⟨k, h1, h2, h3⟩
      · exact .inr x
    · rcases e3 with ⟨k, h1, h2, h3⟩ | x
      · exact .inl ⟨k, h1, h2, h3⟩
      · exact .inr x
noncomputable def bitsB (xs : List Int) : Bool := xs.all fun x => decide (x = 0) || decide (x = 1)
noncomputable def shortB (xs : List Int) : Bool := match xs with | [] => true | x :: r => decide ((x :: r).length ≤ ft x (x :: r) + 2)
theorem bits_of {xs : List Int} (h : bitsB xs = true) : Bits xs := fun x hx => by
  have := List.all_eq_true.mp h x hx
  simpa using this
theorem short_of {xs : List Int} (h : shortB xs = true) : Short xs := fun x r e => by
  subst e
  exact of_decide_eq_true h
/-- all that is asked of a row and of its heads -/
noncomputable def goodB (r : List Int) : Bool := rowOkB r && bitsB r && decide (r.length ≤ 20) && (List.range (r.length + 1)).all fun k => shortB (r.take k)
/-- the edges of the stalk that a worth gives -/
noncomputable def oneF (w : Int) : List Int := (edgesF w).map fun e => if (decide (e = 1) == decide (0 < w)) = true then 1 else 0
noncomputable def allRows : List (List Int) := [[0], [1], [0, 0], [0, 1], [1, 0], [1, 1], [0, 0, 0], [0, 0, 1], [0, 1, 0], [0, 1, 1], [1, 0, 0], [1, 0, 1], [1, 1, 0], [1, 1, 1]]
theorem short_rows : allRows.all goodB = true := by decide +kernel
theorem worth_rows : allRows.all (fun r => decide (worthF r ≤ 4 * (r.length : Int)) && decide (-4 * (r.length : Int) ≤ worthF r)) = true := by decide +kernel
noncomputable def oneB (i : Nat) : Bool := let w : Int := (i : Int) - 24; goodB (oneF w) && goodB ((oneF w).map fun e => 1 - e) && decide (worthF (oneF w) = w) && decide (worthF ((oneF w).map fun e => 1 - e) = -w) &&
    decide (edgesB (stalkF w) 20 0 = some (oneF w)) && decide ((stalkF w).length ≤ 20)
theorem ob0 : (List.range 7).all (fun i => oneB (7 * 0 + i)) = true := by decide +kernel
theorem ob1 : (List.range 7).all (fun i => oneB (7 * 1 + i)) = true := by decide +kernel
theorem ob2 : (List.range 7).all (fun i => oneB (7 * 2 + i)) = true := by decide +kernel
theorem ob3 : (List.range 7).all (fun i => oneB (7 * 3 + i)) = true := by decide +kernel
theorem ob4 : (List.range 7).all (fun i => oneB (7 * 4 + i)) = true := by decide +kernel
theorem ob5 : (List.range 7).all (fun i => oneB (7 * 5 + i)) = true := by decide +kernel
theorem ob6 : (List.range 7).all (fun i => oneB (7 * 6 + i)) = true := by decide +kernel
theorem one_rows {i : Nat} (h : i < 49) : oneB i = true := by
  have key : (List.range 7).all (fun k => oneB (7 * (i / 7) + k)) = true := by
    rcases (show i / 7 = 0 ∨ i / 7 = 1 ∨ i / 7 = 2 ∨ i / 7 = 3 ∨ i / 7 = 4 ∨ i / 7 = 5 ∨ i / 7 = 6 by omega) with e | e | e | e | e | e | e <;> rw [e]
    · exact ob0
    · exact ob1
    · exact ob2
    · exact ob3
    · exact ob4
    · exact ob5
    · exact ob6
  have := List.all_eq_true.mp key (i % 7) (List.mem_range.mpr (Nat.mod_lt _ (by decide)))
  rwa [Nat.div_add_mod] at this
end
section
set_option Elab.async false
set_option linter.unusedVariables false
noncomputable def cnd (rs : List (List Int)) (m : Int) (q : Nat) : Bool := if m = 0 then !decide (0 < totR worthF rs q) else !decide (totR worthF rs q < 0)
noncomputable def wk (rs : List (List Int)) (p : Nat) (m : Int) (i j : Nat) : Bool := (List.range j).any fun k => decide (edgeAt (rowAt rs i) k = m) && cnd rs m (p - (high rs p i - k) * stp rs i)
noncomputable def wn (rs : List (List Int)) (p : Nat) (m : Int) (i : Nat) : Bool := (List.range i).any fun j => wk rs p m j (high rs p j)
noncomputable def psum (rs : List (List Int)) (p i : Nat) : Int := ((List.range i).map fun j => worthF ((rowAt rs j).take (high rs p j))).sum
theorem psum_succ (rs : List (List Int)) (p i : Nat) : psum rs p (i + 1) = psum rs p i + worthF ((rowAt rs i).take (high rs p i)) := by
  unfold psum; rw [List.range_succ]; simp
theorem wn_succ (rs : List (List Int)) (p : Nat) (m : Int) (i : Nat) : wn rs p m (i + 1) = (wn rs p m i || wk rs p m i (high rs p i)) := by
  unfold wn; rw [List.range_succ]; simp
theorem wk_succ (rs : List (List Int)) (p : Nat) (m : Int) (i j : Nat) : wk rs p m i (j + 1) = (wk rs p m i j || (decide (edgeAt (rowAt rs i) j = m) && cnd rs m (p - (high rs p i - j) * stp rs i))) := by
  unfold wk; rw [List.range_succ]; simp
theorem wk_zero (rs : List (List Int)) (p : Nat) (m : Int) (i : Nat) : wk rs p m i 0 = false := rfl
theorem psum_all : ∀ (rs : List (List Int)) (p : Nat), psum rs p rs.length = totR worthF rs p
  | [], p => rfl
  | r :: rs, p => by
    have ih := psum_all rs (p / (r.length + 1))
    unfold psum at ih ⊢
    rw [List.length_cons, List.range_succ_eq_map, List.map_cons, List.sum_cons, List.map_map]
    have e : ((fun j => worthF ((rowAt (r :: rs) j).take (high (r :: rs) p j))) ∘ Nat.succ) = fun j => worthF ((rowAt rs j).take (high rs (p / (r.length + 1)) j)) := by
      funext j
      simp only [Function.comp, high_succ]
      simp [rowAt]
    rw [e, ih, high_zero]
    simp [rowAt, totR]
theorem wn_one {rs : List (List Int)} (h : ∀ r ∈ rs, RowOk worthF r) (p : Nat) : wn rs p 1 rs.length = decide (0 < totR worthF rs p) := by
  rw [Bool.eq_iff_iff, decide_eq_true_eq, ← won1 worthF h p]
  simp only [wn, wk, cnd, List.any_eq_true, List.mem_range, Bool.and_eq_true, decide_eq_true_eq]
  constructor
  · rintro ⟨n, hn, k, hk, he, hc⟩
    exact ⟨n, k, hn, hk, he, by simpa using hc⟩
  · rintro ⟨n, k, hn, hk, he, hc⟩
    exact ⟨n, hn, k, hk, he, by simpa using hc⟩
theorem wn_zero {rs : List (List Int)} (h : ∀ r ∈ rs, RowOk worthF r) (p : Nat) : wn rs p 0 rs.length = decide (totR worthF rs p < 0) := by
  rw [Bool.eq_iff_iff, decide_eq_true_eq, ← won0 worthF h p]
  simp only [wn, wk, cnd, List.any_eq_true, List.mem_range, Bool.and_eq_true, decide_eq_true_eq]
  constructor
  · rintro ⟨n, hn, k, hk, he, hc⟩
    exact ⟨n, k, hn, hk, he, by simpa using hc⟩
  · rintro ⟨n, k, hn, hk, he, hc⟩
    exact ⟨n, hn, k, hk, he, by simpa using hc⟩
end
section
noncomputable def wl (r : List Int) : List V := (List.range (r.length + 1)).map fun k => V.int (worthF (r.take k))
structure RowsAt (H : List (Addr × O)) (ra : Addr) (addrs : List Addr) (rs : List (List Int)) : Prop where
  list : (ra, O.list (addrs.map V.ref)) ∈ H
  len : addrs.length = rs.length
  each : ∀ (n : Nat) (a : Addr) (r : List Int), addrs[n]? = some a → rs[n]? = some r → (a, O.list (r.map V.int)) ∈ H
  good : ∀ r ∈ rs, goodB r = true
  few : rs.length ≤ 10
  small : ∀ n, n ≤ rs.length → stp rs n ≤ 100000
theorem stp_succ : ∀ (rs : List (List Int)) (n : Nat), n < rs.length → stp rs (n + 1) = stp rs n * ((rowAt rs n).length + 1)
  | [], _, h => by simp at h
  | r :: rs, 0, _ => by simp [stp, rowAt]
  | r :: rs, n + 1, h => by
    have := stp_succ rs n (by simpa using h)
    simp only [stp, this, rowAt, List.getElem?_cons_succ, Nat.mul_assoc]
theorem high_cast (p st l : Nat) : ((p : Int).fdiv (st : Int)).fmod ((l : Int) + 1) = ((p / st % (l + 1) : Nat) : Int) := by
  rw [Int.fdiv_eq_ediv_of_nonneg _ (by omega), Int.fmod_eq_emod_of_nonneg _ (by omega)]
  simp
noncomputable def stpL (rs : List (List Int)) (k : Nat) : List V := (List.range (k + 1)).map fun n => V.int (stp rs n : Nat)
noncomputable def wnF (rs : List (List Int)) (p : Nat) : List V := [.bool (decide (totR worthF rs p < 0)), .bool (decide (0 < totR worthF rs p))]
noncomputable def wlF (rs : List (List Int)) (j : Nat) : List V := wl (rowAt rs j)
theorem stpL_len (rs : List (List Int)) (k : Nat) : (stpL rs k).length = k + 1 := by simp [stpL]
theorem stpL_at {rs : List (List Int)} {k i : Nat} (h : i ≤ k) : (stpL rs k)[Int.toNat ((i : Nat) : Int)]? = some (.int (stp rs i : Nat)) := by
  rw [stpL, Int.toNat_natCast, List.getElem?_map, List.getElem?_range (by omega)]; rfl
theorem stpL_ge (rs : List (List Int)) (k : Nat) : -((stpL rs k).length : Int) ≤ -1 := by rw [stpL_len]; omega
theorem stpL_last (rs : List (List Int)) (k : Nat) : (stpL rs k)[((-1 : Int) + ((stpL rs k).length : Nat)).toNat]? = some (.int (stp rs k : Nat)) := by
  rw [stpL_len, show ((-1 : Int) + ((k + 1 : Nat) : Int)).toNat = k by omega]; simp [stpL]
theorem stpL_zero (rs : List (List Int)) : stpL rs 0 = [V.int 1] := by simp [stpL, stp]
theorem stpL_succ (rs : List (List Int)) (k : Nat) : stpL rs (k + 1) = stpL rs k ++ [V.int (stp rs (k + 1) : Nat)] := by
  unfold stpL; rw [List.range_succ, List.map_append, List.map_singleton]
theorem wlF_at {rs : List (List Int)} {i k : Nat} (h : k ≤ (rowAt rs i).length) : (wlF rs i)[Int.toNat ((k : Nat) : Int)]? = some (.int (worthF ((rowAt rs i).take k))) := by
  rw [wlF, Int.toNat_natCast, wl, List.getElem?_map, List.getElem?_range (by omega)]; rfl
theorem played_ok {c : Cx} {A : Around} {s : Shared} {H : List (Addr × O)} {Q : V → Shared → Prop} {ra : Addr} {addrs : List Addr} {rs : List (List Int)} (G : Good c) (R : Room 8 A) (S : St c H s) (hr : RowsAt H ra addrs rs)
    (hz : totR worthF rs (stp rs rs.length - 1) = 0) (h : ∀ s, St c H s → Q (.bool true) s) : callV c A (.ref 161) [.ref ra] Q s := by
  refine call_top (cn := []) G S R rfl rfl rfl (by decide) (by decide) (binds1 (p := "rows") fun _ => rfl) rfl rfl (by decide +kernel) ?_
  intro L as s A R' hl' S'
  obtain rfl := len0 hl'
  simp only [zipC, cellsH] at *
  walk_at "go"
  refine ⟨⟨_, by assumption⟩, fun A R => ?_⟩
  have hh : A.handled = none := R.handled
  have hlist := hr.list
  have hok : ∀ r ∈ rs, RowOk worthF r := fun r hm => by
    have hg := hr.good r hm
    simp only [goodB, Bool.and_eq_true, decide_eq_true_eq] at hg
    exact rowOk_of hg.1.1.1
  have hal : addrs.length ≤ 10 := by rw [hr.len]; exact hr.few
  walk_at "go"
  refine it_list (xs := addrs.map V.ref) (by assumption) (by walk_at "own") ?_
  intro it s' S'
  refine for_J (fun k s => ∃ sa i, k = addrs.length - i ∧ i ≤ addrs.length ∧ St c ((it, .liter ra i) :: (sa, .list (stpL rs i)) :: (L, .ns [("rows", .ref ra), ("steps", .ref sa)]) :: H) s)
    (fun s => ∃ sa, St c ((sa, .list (stpL rs rs.length)) :: (L, .ns [("rows", .ref ra), ("steps", .ref sa)]) :: H) s) addrs.length ⟨_, 0, rfl, by omega, by rw [stpL_zero]; walk_at "st"⟩ ?_ ?_
  · rintro k s ⟨sa, i, e1, e2, S'⟩
    by_cases q : i < addrs.length
    · have q' : i < rs.length := by rw [← hr.len]; exact q
      have ea : addrs[i]? = some addrs[i] := List.getElem?_eq_getElem q
      have er : rs[i]? = some rs[i] := List.getElem?_eq_getElem q'
      have hm := hr.each _ _ _ ea er
      have hg := hr.good _ (List.getElem_mem q')
      have hlr : rs[i].length ≤ 20 := by
        simp only [goodB, Bool.and_eq_true, decide_eq_true_eq] at hg; exact hg.1.2
      refine nx_list (xs := addrs.map V.ref) (v := .ref addrs[i]) G S' .head (by walk_at "own") (by simp [ea]) ?_
      intro s S'
      have hs0 := hr.small i (by omega)
      have hs1 := stp_succ rs i q'
      have hri : rowAt rs i = rs[i] := by simp [rowAt, er]
      rw [hri] at hs1
      walk_at "go"
      refine sub_list_neg (xs := stpL rs i) (v := .int (stp rs i : Nat)) (by walk_at "own") (by decide) (stpL_ge rs i) (by decide) (stpL_last rs i) (fun _ _ => rfl) ?_
      walk_at "go"
      refine k_append (xs := stpL rs i) G (by assumption) (by walk_at "upd") (by rw [stpL_len]; omega) ?_
      intro s' S'
      walk_at "go"
      refine ⟨addrs.length - (i + 1), by omega, sa, i + 1, rfl, by omega, ?_⟩
      have e5 : stpL rs (i + 1) = stpL rs i ++ [V.int ((stp rs i : Nat) * (((rs[i].map V.int).length : Int) + 1))] := by
        rw [stpL_succ, hs1, List.length_map]
        simp
      rw [e5]
      exact St.forget (m := [("rows", .ref ra), ("steps", .ref sa), ("row", .ref addrs[i])]) G (by assumption) (by walk_at "upd") (List.Sublist.cons_cons _ (List.Sublist.cons_cons _ (List.nil_sublist _)))
    · have ei : i = addrs.length := by omega
      subst ei
      refine nx_list_fin (xs := addrs.map V.ref) G hh S' .head (by walk_at "own") (by simp) ?_
      intro s S'
      exact ⟨sa, by rw [← hr.len]; exact S'⟩
  rintro s ⟨sa, S'⟩
  walk_at "go"
  refine s_AssignCompM (cn := ["row"]) (cl := []) G rfl (fun _ => rfl) (by kernel_rfl) rfl (by decide +kernel) (by decide +kernel) ?_
  walk_at "go"
  refine it_list (xs := addrs.map V.ref) (by assumption) (by walk_at "own") ?_
  intro it s' S'
  refine ⟨it, _, rfl, S', ?_⟩
  intro acc L2 as s hl S'
  obtain ⟨rc, rfl⟩ := len1 hl
  simp only [zipC, cellsH] at *
  refine ⟨again_liter (by walk_at "own") ⟨rfl, rfl⟩, ?_⟩
  refine comp_inv (fun k s => ∃ i ws v0, k = addrs.length - i ∧ i ≤ addrs.length ∧ ws.length = i ∧ St c ((rc, .cell v0) :: (L2, .ns []) :: (acc, .list (ws.map V.ref)) :: (it, .liter ra i) :: (objs (wlF rs) ws ++
      (sa, .list (stpL rs rs.length)) :: (L, .ns [("rows", .ref ra), ("steps", .ref sa)]) :: H)) s) addrs.length ⟨0, [], none, rfl, by omega, rfl, S'⟩ ?_
  rintro k s ⟨i, ws, v0, e1, e2, e3, S'⟩
  by_cases q : i < addrs.length
  · have q' : i < rs.length := by rw [← hr.len]; exact q
    have ea : addrs[i]? = some addrs[i] := List.getElem?_eq_getElem q
    have er : rs[i]? = some rs[i] := List.getElem?_eq_getElem q'
    have hm := hr.each _ _ _ ea er
    have hg := hr.good _ (List.getElem_mem q')
    have hri : rowAt rs i = rs[i] := by simp [rowAt, er]
    simp only [goodB, Bool.and_eq_true, decide_eq_true_eq] at hg
    have hlr := hg.1.2
    refine nx_list (xs := addrs.map V.ref) (v := .ref addrs[i]) G S' (by walk_at "upd") (S'.has (.tail _ (.tail _ (.tail _ (.tail _ (List.mem_append_right _ (.tail _ (.tail _ hlist)))))))) (by simp [ea]) ?_
    intro s S'
    have hmT : (addrs[i], O.list (rs[i].map V.int)) ∈ objs (wlF rs) ws ++ (sa, O.list (stpL rs rs.length)) :: (L, .ns [("rows", .ref ra), ("steps", .ref sa)]) :: H := List.mem_append_right _ (.tail _ (.tail _ hm))
    generalize hT : objs (wlF rs) ws ++ (sa, O.list (stpL rs rs.length)) :: (L, O.ns [("rows", .ref ra), ("steps", .ref sa)]) :: H = T at *
    walk_at "go"
    refine e_CompM (cn := []) (cl := [("row", rc)]) G (fun _ => rfl) (by kernel_rfl) rfl (by decide +kernel) (by decide +kernel) ?_
    walk_at "go"
    refine it_range (by assumption) (by walk_at "own") (by decide) (by simp; omega) ?_
    intro it2 s' S'
    refine ⟨it2, _, rfl, S', ?_⟩
    intro acc2 L3 as s hl S'
    obtain rfl := len0 hl
    simp only [zipC, cellsH] at *
    have er2 : (if (0 : Int) < ((rs[i].map V.int).length : Int) + 1 then ((rs[i].map V.int).length : Int) + 1 - 0 else 0) = ((rs[i].length + 1 : Nat) : Int) := by
      rw [if_pos (by omega)]; simp
    rw [er2] at S'
    refine ⟨again_rit (by walk_at "own") ⟨rfl, rfl⟩, ?_⟩
    refine comp_mapR (n := rs[i].length + 1) (fun k => V.int (worthF (rs[i].take k))) G hh rfl (by decide +kernel) (by omega) S' ?_ ?_
    · intro j hj ys o s Q' S' h
      have hgs := List.all_eq_true.mp hg.2 j (List.mem_range.mpr hj)
      walk_at "go"
      refine ⟨_, by assumption, fun x' s' S' => ?_⟩
      refine sub_upto (xs := rs[i].map V.int) (by assumption) (by walk_at "own") (by walk_at "own") (by omega) (by simp; omega) (fun _ _ => by first | exact Or.inl rfl | exact Or.inr rfl) ?_
      intro d s' S'
      rw [Int.toNat_natCast, ← List.map_take] at S'
      walk_at "go"
      refine ⟨fn_old G (by assumption) rfl rfl (by decide), worth_ok (xs := rs[i].take j) G (R.le (by decide)) (by assumption) (by walk_at "mem") (by simp; omega) (fun x hx => bits_of hg.1.1.2 x (List.mem_of_mem_take hx)) (short_of hgs) ?_⟩
      intro s' S'
      exact h _ (by walk_at "st")
    intro s m S'
    refine ⟨_, _, m, S', .head, ?_⟩
    intro s S'
    refine k_append (xs := ws.map V.ref) G (by assumption) (by walk_at "upd") (by simp; omega) ?_
    intro s' S'
    refine ⟨addrs.length - (i + 1), by omega, i + 1, ws ++ [acc2], some (.ref addrs[i]), rfl, by omega, by simp [e3], ?_⟩
    subst hT
    have S2 := St.objP (f := wlF rs) (ws := ws) (a := acc2) (H := (sa, O.list (stpL rs rs.length)) :: (L, O.ns [("rows", .ref ra), ("steps", .ref sa)]) :: H)
      [(rc, .cell (some (.ref addrs[i]))), (L2, .ns []), (acc, .list (ws.map V.ref ++ [.ref acc2])), (it, .liter ra (i + 1))] (s := s') (c := c) (by
        rw [e3, wlF, hri]
        exact St.sub S' (List.Sublist.cons_cons _ (List.Sublist.cons _ (List.Sublist.refl _))))
    rw [List.map_append]
    exact S2
  · have ei : i = addrs.length := by omega
    subst ei
    refine nx_list_fin (xs := addrs.map V.ref) G hh S' (by walk_at "del") (S'.has (.tail _ (.tail _ (.tail _ (.tail _ (List.mem_append_right _ (.tail _ (.tail _ hlist)))))))) (by simp) ?_
    intro s S' y ry
    walk_at "go"
    refine ⟨_, _, [], by assumption, by walk_at "del", ?_⟩
    intro s S'
    have hwl : ws.length = rs.length := by rw [e3, hr.len]
    have hN1 := hr.small rs.length (Nat.le_refl _)
    have hN0 := stp_pos rs rs.length
    have hf := hr.few
    walk_at "go"
    refine sub_list_neg (xs := stpL rs rs.length) (v := .int (stp rs rs.length : Nat)) (by walk_at "own") (by decide) (stpL_ge rs _) (by decide) (stpL_last rs _) (fun _ _ => rfl) ?_
    walk_at "go"
    refine it_range (by assumption) (by walk_at "own") (by decide) (by omega) ?_
    intro it s' S'
    rw [if_pos (by omega : (0 : Int) < (stp rs rs.length : Nat)), Int.sub_zero] at S'
    obtain ⟨ba, S2⟩ : ∃ ba, St c ((it, .raw (rit 0 (stp rs rs.length : Nat))) :: (ba, .list []) :: (acc, .list (ws.map V.ref)) :: (objs (wlF rs) ws ++ (sa, .list (stpL rs rs.length)) ::
          (L, .ns [("rows", .ref ra), ("steps", .ref sa), ("worths", .ref acc), ("begins", .ref ba), ("total", .int 0)]) :: H)) s' := ⟨_, by walk_at "st"⟩
    have S3 := St.forget (m' := [("rows", .ref ra), ("steps", .ref sa), ("worths", .ref acc), ("begins", .ref ba)]) G S2 (.tail (.tail (.tail (UpdH.app _ (.tail .head))))) (by walk_at "sub")
    refine for_J (fun k s => ∃ ba p bs, k = stp rs rs.length - p ∧ p ≤ stp rs rs.length ∧ bs.length = p ∧ St c ((it, .raw (rit (p : Nat) ((stp rs rs.length : Nat) - (p : Nat) : Int))) :: (ba, .list (bs.map V.ref)) :: (acc, .list (ws.map V.ref)) ::
        (objs (wnF rs) bs ++ (objs (wlF rs) ws ++ (sa, .list (stpL rs rs.length)) ::
          (L, .ns [("rows", .ref ra), ("steps", .ref sa), ("worths", .ref acc), ("begins", .ref ba)]) :: H))) s)
      (fun s => ∃ ba bs, bs.length = stp rs rs.length ∧ St c ((ba, .list (bs.map V.ref)) ::
        (objs (wnF rs) bs ++ (L, .ns [("begins", .ref ba)]) :: H)) s) (stp rs rs.length) ⟨ba, 0, [], rfl, by omega, rfl, by rw [objs_nil]; simpa using S3⟩ ?_ ?_
    · rintro k s ⟨ba, p, bs, e1, e2, e3, S'⟩
      by_cases q : p < stp rs rs.length
      · refine nx_range G S' .head (by omega) ?_
        intro s S'
        walk_at "go"
        refine it_range (by assumption) (by walk_at "own") (by decide) (by simp; omega) ?_
        intro it2 s' S'
        obtain ⟨wa, S2⟩ : ∃ wa, St c ((it2, .raw (rit 0 (rs.length : Nat))) :: (wa, .list [.bool false, .bool false]) :: (it, .raw (rit ((p : Nat) + 1) ((stp rs rs.length : Nat) - (p : Nat) - 1 : Int))) :: (ba, .list (bs.map V.ref)) :: (acc, .list (ws.map V.ref)) ::
            (objs (wnF rs) bs ++ (objs (wlF rs) ws ++ (sa, .list (stpL rs rs.length)) ::
            (L, .ns [("rows", .ref ra), ("steps", .ref sa), ("worths", .ref acc), ("begins", .ref ba), ("spot", .int (p : Nat)), ("wins", .ref wa), ("total", .int 0)]) :: H))) s' := by
          rw [show (if (0 : Int) < ((addrs.map V.ref).length : Int) then ((addrs.map V.ref).length : Int) - 0 else 0) = (rs.length : Nat) by rw [List.length_map, hr.len]; split <;> omega] at S'
          exact ⟨_, by walk_at "st"⟩
        refine for_J (fun k s => ∃ i, k = rs.length - i ∧ i ≤ rs.length ∧ St c ((it2, .raw (rit (i : Nat) ((rs.length : Nat) - (i : Nat) : Int))) :: (wa, .list [.bool (wn rs p 0 i), .bool (wn rs p 1 i)]) :: (it, .raw (rit ((p : Nat) + 1) ((stp rs rs.length : Nat) - (p : Nat) - 1 : Int))) :: (ba, .list (bs.map V.ref)) :: (acc, .list (ws.map V.ref)) ::
            (objs (wnF rs) bs ++ (objs (wlF rs) ws ++ (sa, .list (stpL rs rs.length)) ::
            (L, .ns [("rows", .ref ra), ("steps", .ref sa), ("worths", .ref acc), ("begins", .ref ba), ("spot", .int (p : Nat)), ("wins", .ref wa), ("total", .int (psum rs p i))]) :: H))) s)
          (fun s => St c ((wa, .list [.bool (wn rs p 0 rs.length), .bool (wn rs p 1 rs.length)]) :: (it, .raw (rit ((p : Nat) + 1) ((stp rs rs.length : Nat) - (p : Nat) - 1 : Int))) :: (ba, .list (bs.map V.ref)) :: (acc, .list (ws.map V.ref)) ::
            (objs (wnF rs) bs ++ (objs (wlF rs) ws ++ (sa, .list (stpL rs rs.length)) ::
            (L, .ns [("rows", .ref ra), ("steps", .ref sa), ("worths", .ref acc), ("begins", .ref ba), ("spot", .int (p : Nat)), ("wins", .ref wa), ("total", .int (psum rs p rs.length))]) :: H))) s) rs.length ⟨0, rfl, by omega, by simpa [wn, psum] using S2⟩ ?_ ?_
        · rintro k s ⟨i, f1, f2, S'⟩
          by_cases qi : i < rs.length
          · have qa : i < addrs.length := by rw [hr.len]; exact qi
            have ea : addrs[i]? = some addrs[i] := List.getElem?_eq_getElem qa
            have er : rs[i]? = some rs[i] := List.getElem?_eq_getElem qi
            have hm := hr.each _ _ _ ea er
            have hri : rowAt rs i = rs[i] := by simp [rowAt, er]
            have ew : ws[i]? = some (ws[i]'(by omega)) := List.getElem?_eq_getElem _
            generalize ws[i]'(by omega) = wi at ew
            have hW := objs_mem (f := wlF rs) ew
            have hsm := hr.small i (by omega)
            have hsp := stp_pos rs i
            have hi0 : (0 : Int) ≤ (i : Nat) := Int.natCast_nonneg _
            have hi63 : ((i : Nat) : Int) < 2 ^ 63 := by omega
            have hhl := high_le rs p i
            have hhr := hhl
            rw [hri] at hhr
            have hlr : rs[i].length ≤ 20 := by
              have hg := hr.good _ (List.getElem_mem qi)
              simp only [goodB, Bool.and_eq_true, decide_eq_true_eq] at hg; exact hg.1.2
            refine nx_range G S' .head (by omega) ?_
            intro s S'
            walk_at "go"
            refine sub_list (xs := stpL rs rs.length) (v := .int (stp rs i : Nat)) (by walk_at "own") hi0 hi63 (stpL_at (Nat.le_of_lt qi)) (fun _ _ => rfl) ?_
            walk_at "go"
            refine sub_list (xs := addrs.map V.ref) (v := .ref addrs[i]) (by walk_at "own") (by omega) (by omega) (by rw [Int.toNat_natCast]; simp [ea]) (fun _ _ => rfl) ?_
            walk_at "go"
            rename_i s5 S5
            have hfold : p / stp rs i % (rs[i].length + 1) = high rs p i := by simp [high, hri]
            rw [List.length_map, high_cast, hfold] at S5
            refine sub_list (xs := ws.map V.ref) (v := .ref wi) (by walk_at "own") (by omega) (by omega) (by rw [Int.toNat_natCast]; simp [ew]) (fun _ _ => rfl) ?_
            walk_at "go"
            refine sub_list (xs := wlF rs i) (v := .int (worthF ((rowAt rs i).take (high rs p i)))) (by walk_at "own") (by omega) (by omega) (wlF_at hhl) (fun _ _ => rfl) ?_
            walk_at "go"
            refine it_range (by assumption) (by walk_at "own") (by decide) (by omega) ?_
            intro it3 s' S'
            rw [show (if (0 : Int) < (high rs p i : Nat) then ((high rs p i : Nat) : Int) - 0 else 0) = (high rs p i : Nat) by split <;> omega, ← psum_succ] at S'
            refine for_J (fun k s => ∃ j, k = high rs p i - j ∧ j ≤ high rs p i ∧ St c ((it3, .raw (rit (j : Nat) ((high rs p i : Nat) - (j : Nat) : Int))) :: (it2, .raw (rit ((i : Nat) + 1) ((rs.length : Nat) - (i : Nat) - 1 : Int))) :: (wa, .list [.bool (wn rs p 0 i || wk rs p 0 i j), .bool (wn rs p 1 i || wk rs p 1 i j)]) :: (it, .raw (rit ((p : Nat) + 1) ((stp rs rs.length : Nat) - (p : Nat) - 1 : Int))) :: (ba, .list (bs.map V.ref)) :: (acc, .list (ws.map V.ref)) ::
                (objs (wnF rs) bs ++ (objs (wlF rs) ws ++ (sa, .list (stpL rs rs.length)) ::
                (L, .ns [("rows", .ref ra), ("steps", .ref sa), ("worths", .ref acc), ("begins", .ref ba), ("spot", .int (p : Nat)), ("wins", .ref wa), ("total", .int (psum rs p (i + 1))), ("n", .int (i : Nat)), ("high", .int (high rs p i : Nat))]) :: H))) s)
              (fun s => St c ((it2, .raw (rit ((i : Nat) + 1) ((rs.length : Nat) - (i : Nat) - 1 : Int))) :: (wa, .list [.bool (wn rs p 0 (i + 1)), .bool (wn rs p 1 (i + 1))]) :: (it, .raw (rit ((p : Nat) + 1) ((stp rs rs.length : Nat) - (p : Nat) - 1 : Int))) :: (ba, .list (bs.map V.ref)) :: (acc, .list (ws.map V.ref)) ::
                (objs (wnF rs) bs ++ (objs (wlF rs) ws ++ (sa, .list (stpL rs rs.length)) ::
                (L, .ns [("rows", .ref ra), ("steps", .ref sa), ("worths", .ref acc), ("begins", .ref ba), ("spot", .int (p : Nat)), ("wins", .ref wa), ("total", .int (psum rs p (i + 1)))]) :: H))) s) (high rs p i) ⟨0, rfl, by omega, by simp only [wk_zero, Bool.or_false]; simpa using (show St c _ s' by walk_at "st")⟩ ?_ ?_
            · rintro k s ⟨j, g1, g2, S'⟩
              by_cases qj : j < high rs p i
              · have hle : (high rs p i - j) * stp rs i ≤ p := Nat.le_trans (Nat.mul_le_mul_right _ (Nat.sub_le _ _)) (high_mul rs p i)
                have hpos : 0 < (high rs p i - j) * stp rs i := Nat.mul_pos (by omega) hsp
                obtain ⟨qq, hqq⟩ : ∃ qq, qq = p - (high rs p i - j) * stp rs i := ⟨_, rfl⟩
                have eqq : (p : Int) - ((high rs p i : Nat) - (j : Nat) : Int) * (stp rs i : Nat) = (qq : Nat) := by
                  have : ((high rs p i : Nat) - (j : Nat) : Int) = ((high rs p i - j : Nat) : Int) := by omega
                  rw [this, ← Int.natCast_mul]
                  generalize (high rs p i - j) * stp rs i = z at *
                  omega
                have qlt : qq < bs.length := by
                  generalize (high rs p i - j) * stp rs i = z at *
                  omega
                have eb : bs[qq]? = some bs[qq] := List.getElem?_eq_getElem qlt
                generalize bs[qq] = bq at eb
                have hB := objs_mem (f := wnF rs) eb
                have jl : j < rs[i].length := by omega
                have el : rs[i][j]? = some rs[i][j] := List.getElem?_eq_getElem jl
                have ej1 : ((j + 1 : Nat) : Int) = (j : Int) + 1 := by omega
                have ej2 : (high rs p i : Nat) - ((j : Int) + 1) = ((high rs p i : Nat) : Int) - (j : Nat) - 1 := by omega
                have hbit : rs[i][j] = 0 ∨ rs[i][j] = 1 := by
                  have hg := hr.good _ (List.getElem_mem qi)
                  simp only [goodB, Bool.and_eq_true, decide_eq_true_eq] at hg
                  exact bits_of hg.1.1.2 _ (List.getElem_mem jl)
                have hej : edgeAt rs[i] j = rs[i][j] := by simp [edgeAt, el]
                refine nx_range G S' .head (by omega) ?_
                intro s S'
                walk_at "go"
                refine sub_list (xs := addrs.map V.ref) (v := .ref addrs[i]) (by walk_at "own") (by omega) (by omega) (by rw [Int.toNat_natCast]; simp [ea]) (fun _ _ => rfl) ?_
                walk_at "go"
                rcases hbit with he | he <;> rw [he] at hej
                · refine sub_list (xs := rs[i].map V.int) (v := .int 0) (by walk_at "own") (by omega) (by omega) (by rw [Int.toNat_natCast]; simp [el, he]) (fun _ _ => rfl) ?_
                  walk_at "go"
                  refine sub_list (xs := stpL rs rs.length) (v := .int (stp rs i : Nat)) (by walk_at "own") hi0 hi63 (stpL_at (Nat.le_of_lt qi)) (fun _ _ => rfl) ?_
                  walk_at "go"
                  rw [eqq]
                  refine sub_list (xs := bs.map V.ref) (v := .ref bq) (by walk_at "own") (by omega) (by omega) (by rw [Int.toNat_natCast]; simp [eb]) (fun _ _ => rfl) ?_
                  walk_at "go"
                  refine sub_list (xs := [.bool (decide (totR worthF rs qq < 0)), .bool (decide (0 < totR worthF rs qq))]) (v := .bool (decide (0 < totR worthF rs qq))) (by walk_at "own") (by decide) (by decide) rfl (fun _ _ => rfl) ?_
                  walk_at "go"
                  refine ⟨fun qc => ?_, fun qc => ?_⟩
                  · walk_at "go"
                    refine set_at (xs := [.bool (wn rs p 0 i || wk rs p 0 i j), .bool (wn rs p 1 i || wk rs p 1 i j)]) G (by assumption) (by walk_at "upd") (by decide) (by simp) (by decide) ?_
                    intro s' S'
                    walk_at "go"
                    refine ⟨high rs p i - (j + 1), by omega, j + 1, rfl, by omega, ?_⟩
                    have w0 : (wn rs p 0 i || wk rs p 0 i (j + 1)) = true := by rw [wk_succ, hri, hej, ← hqq]; simp [cnd, qc]; first | done | (simp at qc; simp [qc])
                    have w1 : (wn rs p 1 i || wk rs p 1 i (j + 1)) = (wn rs p 1 i || wk rs p 1 i j) := by rw [wk_succ, hri, hej, ← hqq]; simp [cnd]
                    rw [w0, w1, ej1, ej2]
                    exact St.forget (m := [("rows", .ref ra), ("steps", .ref sa), ("worths", .ref acc), ("begins", .ref ba), ("spot", .int (p : Nat)), ("wins", .ref wa), ("total", .int (psum rs p (i + 1))), ("n", .int (i : Nat)), ("high", .int (high rs p i : Nat)), ("k", .int (j : Nat)), ("mover", .int 0)]) G (St.sub (by assumption) (by walk_at "sub")) (by walk_at "upd") (by walk_at "sub")
                  · walk_at "go"
                    refine ⟨high rs p i - (j + 1), by omega, j + 1, rfl, by omega, ?_⟩
                    have w0 : (wn rs p 0 i || wk rs p 0 i (j + 1)) = (wn rs p 0 i || wk rs p 0 i j) := by rw [wk_succ, hri, hej, ← hqq]; simp [cnd] <;> simp at qc <;> simp [qc]
                    have w1 : (wn rs p 1 i || wk rs p 1 i (j + 1)) = (wn rs p 1 i || wk rs p 1 i j) := by rw [wk_succ, hri, hej, ← hqq]; simp [cnd] <;> simp at qc <;> simp [qc]
                    rw [w0, w1, ej1, ej2]
                    exact St.forget (m := [("rows", .ref ra), ("steps", .ref sa), ("worths", .ref acc), ("begins", .ref ba), ("spot", .int (p : Nat)), ("wins", .ref wa), ("total", .int (psum rs p (i + 1))), ("n", .int (i : Nat)), ("high", .int (high rs p i : Nat)), ("k", .int (j : Nat)), ("mover", .int 0)]) G (St.sub (by assumption) (by walk_at "sub")) (by walk_at "upd") (by walk_at "sub")
                · refine sub_list (xs := rs[i].map V.int) (v := .int 1) (by walk_at "own") (by omega) (by omega) (by rw [Int.toNat_natCast]; simp [el, he]) (fun _ _ => rfl) ?_
                  walk_at "go"
                  refine sub_list (xs := stpL rs rs.length) (v := .int (stp rs i : Nat)) (by walk_at "own") hi0 hi63 (stpL_at (Nat.le_of_lt qi)) (fun _ _ => rfl) ?_
                  walk_at "go"
                  rw [eqq]
                  refine sub_list (xs := bs.map V.ref) (v := .ref bq) (by walk_at "own") (by omega) (by omega) (by rw [Int.toNat_natCast]; simp [eb]) (fun _ _ => rfl) ?_
                  walk_at "go"
                  refine sub_list (xs := [.bool (decide (totR worthF rs qq < 0)), .bool (decide (0 < totR worthF rs qq))]) (v := .bool (decide (totR worthF rs qq < 0))) (by walk_at "own") (by decide) (by decide) rfl (fun _ _ => rfl) ?_
                  walk_at "go"
                  refine ⟨fun qc => ?_, fun qc => ?_⟩
                  · walk_at "go"
                    refine set_at (xs := [.bool (wn rs p 0 i || wk rs p 0 i j), .bool (wn rs p 1 i || wk rs p 1 i j)]) G (by assumption) (by walk_at "upd") (by decide) (by simp) (by decide) ?_
                    intro s' S'
                    walk_at "go"
                    refine ⟨high rs p i - (j + 1), by omega, j + 1, rfl, by omega, ?_⟩
                    have w0 : (wn rs p 0 i || wk rs p 0 i (j + 1)) = (wn rs p 0 i || wk rs p 0 i j) := by rw [wk_succ, hri, hej, ← hqq]; simp [cnd]
                    have w1 : (wn rs p 1 i || wk rs p 1 i (j + 1)) = true := by rw [wk_succ, hri, hej, ← hqq]; simp [cnd, qc]; first | done | (simp at qc; simp [qc])
                    rw [w0, w1, ej1, ej2]
                    exact St.forget (m := [("rows", .ref ra), ("steps", .ref sa), ("worths", .ref acc), ("begins", .ref ba), ("spot", .int (p : Nat)), ("wins", .ref wa), ("total", .int (psum rs p (i + 1))), ("n", .int (i : Nat)), ("high", .int (high rs p i : Nat)), ("k", .int (j : Nat)), ("mover", .int 1)]) G (St.sub (by assumption) (by walk_at "sub")) (by walk_at "upd") (by walk_at "sub")
                  · walk_at "go"
                    refine ⟨high rs p i - (j + 1), by omega, j + 1, rfl, by omega, ?_⟩
                    have w0 : (wn rs p 0 i || wk rs p 0 i (j + 1)) = (wn rs p 0 i || wk rs p 0 i j) := by rw [wk_succ, hri, hej, ← hqq]; simp [cnd] <;> simp at qc <;> simp [qc]
                    have w1 : (wn rs p 1 i || wk rs p 1 i (j + 1)) = (wn rs p 1 i || wk rs p 1 i j) := by rw [wk_succ, hri, hej, ← hqq]; simp [cnd] <;> simp at qc <;> simp [qc]
                    rw [w0, w1, ej1, ej2]
                    exact St.forget (m := [("rows", .ref ra), ("steps", .ref sa), ("worths", .ref acc), ("begins", .ref ba), ("spot", .int (p : Nat)), ("wins", .ref wa), ("total", .int (psum rs p (i + 1))), ("n", .int (i : Nat)), ("high", .int (high rs p i : Nat)), ("k", .int (j : Nat)), ("mover", .int 1)]) G (St.sub (by assumption) (by walk_at "sub")) (by walk_at "upd") (by walk_at "sub")
              · have ej : j = high rs p i := by omega
                subst ej
                refine nx_range_fin G hh S' .head (by omega) ?_
                intro s S'
                rw [wn_succ, wn_succ]
                exact St.forget G S' (by walk_at "upd") (by walk_at "sub")
            · intro s S'
              walk_at "go"
              refine ⟨rs.length - (i + 1), by omega, i + 1, rfl, by omega, ?_⟩
              rw [show ((i + 1 : Nat) : Int) = (i : Int) + 1 by omega, show (rs.length : Nat) - ((i : Int) + 1) = ((rs.length : Nat) : Int) - (i : Nat) - 1 by omega]
              assumption
          · have ei : i = rs.length := by omega
            subst ei
            exact nx_range_fin G hh S' .head (by omega) fun s S' => S'
        intro s S'
        rw [psum_all, wn_zero hok, wn_one hok] at S'
        obtain ⟨t, ht⟩ : ∃ t, t = totR worthF rs p := ⟨_, rfl⟩
        rw [← ht] at S'
        walk_at "go"
        refine k_append (xs := bs.map V.ref) G (by assumption) (by walk_at "upd") (by simp; omega) ?_
        intro s' S'
        walk_at "go"
        refine ⟨fn_old G (by assumption) rfl rfl (by decide), isnt_ok G (R.le (by decide)) (by assumption) ?_⟩
        intro s' S'
        walk_at "go"
        refine sub_list (xs := [.bool (decide (t < 0)), .bool (decide (0 < t))]) (v := .bool (decide (t < 0))) (by walk_at "own") (by decide) (by decide) rfl (fun _ _ => rfl) ?_
        walk_at "go"
        refine ⟨fun qc => ?_, fun _ => ?_⟩
        · exfalso
          by_cases z : t < 0
          · rw [decide_eq_true z, decide_eq_false (by omega)] at qc; cases qc
          · rw [decide_eq_false z, decide_eq_true (by omega)] at qc; cases qc
        walk_at "go"
        refine ⟨fn_old G (by assumption) rfl rfl (by decide), isnt_ok G (R.le (by decide)) (by assumption) ?_⟩
        intro s' S'
        walk_at "go"
        refine sub_list (xs := [.bool (decide (t < 0)), .bool (decide (0 < t))]) (v := .bool (decide (0 < t))) (by walk_at "own") (by decide) (by decide) rfl (fun _ _ => rfl) ?_
        walk_at "go"
        refine ⟨fun qc => ?_, fun _ => ?_⟩
        · exfalso
          by_cases z : 0 < t
          · rw [decide_eq_true z, decide_eq_false (by omega)] at qc; cases qc
          · rw [decide_eq_false z, decide_eq_true (by omega)] at qc; cases qc
        walk_at "go"
        refine ⟨fn_old G (by assumption) rfl rfl (by decide), iseof_ok G (R.le (by decide)) (by assumption) ?_⟩
        intro s' S'
        walk_at "go"
        refine sub_list (xs := [.bool (decide (t < 0)), .bool (decide (0 < t))]) (v := .bool (decide (t < 0))) (by walk_at "own") (by decide) (by decide) rfl (fun _ _ => rfl) ?_
        walk_at "go"
        have fin : ∀ s, St c ((wa, .list [.bool (decide (t < 0)), .bool (decide (0 < t))]) :: (it, .raw (rit ((p : Nat) + 1) ((stp rs rs.length : Nat) - (p : Nat) - 1 : Int))) :: (ba, .list (bs.map V.ref ++ [.ref wa])) :: (acc, .list (ws.map V.ref)) ::
            (objs (wnF rs) bs ++ (objs (wlF rs) ws ++ (sa, .list (stpL rs rs.length)) ::
            (L, .ns [("rows", .ref ra), ("steps", .ref sa), ("worths", .ref acc), ("begins", .ref ba), ("spot", .int (p : Nat)), ("wins", .ref wa), ("total", .int t)]) :: H))) s →
            ∃ m, m < k ∧ ∃ ba p bs, m = stp rs rs.length - p ∧ p ≤ stp rs rs.length ∧ bs.length = p ∧ St c ((it, .raw (rit (p : Nat) ((stp rs rs.length : Nat) - (p : Nat) : Int))) :: (ba, .list (bs.map V.ref)) :: (acc, .list (ws.map V.ref)) ::
        (objs (wnF rs) bs ++ (objs (wlF rs) ws ++ (sa, .list (stpL rs rs.length)) ::
          (L, .ns [("rows", .ref ra), ("steps", .ref sa), ("worths", .ref acc), ("begins", .ref ba)]) :: H))) s := by
          intro s S'
          have S2 := St.forget (m' := [("rows", .ref ra), ("steps", .ref sa), ("worths", .ref acc), ("begins", .ref ba)]) G S' (.tail (.tail (.tail (.tail (UpdH.app _ (UpdH.app _ (.tail .head))))))) (by walk_at "sub")
          refine ⟨stp rs rs.length - (p + 1), by omega, ba, p + 1, bs ++ [wa], rfl, by omega, by simp [e3], ?_⟩
          have S3 := St.objP (f := wnF rs) (ws := bs) (a := wa) (s := s) (c := c) (H := objs (wlF rs) ws ++ (sa, .list (stpL rs rs.length)) ::
            (L, .ns [("rows", .ref ra), ("steps", .ref sa), ("worths", .ref acc), ("begins", .ref ba)]) :: H)
            [(it, .raw (rit ((p : Nat) + 1) ((stp rs rs.length : Nat) - (p : Nat) - 1 : Int))), (ba, .list (bs.map V.ref ++ [.ref wa])), (acc, .list (ws.map V.ref))] (by rw [e3, wnF, ← ht]; exact S2)
          rw [List.map_append, show ((p + 1 : Nat) : Int) = (p : Int) + 1 by omega, show (stp rs rs.length : Nat) - ((p : Int) + 1) = ((stp rs rs.length : Nat) : Int) - (p : Nat) - 1 by omega]
          exact S3
        refine ⟨fun qt => ?_, fun qt => ?_⟩
        · walk_at "go"
          refine ⟨fun qc => ?_, fun _ => ?_⟩
          · exfalso
            have z := of_decide_eq_true qt
            rw [decide_eq_true z, decide_eq_false (by omega)] at qc; cases qc
          walk_at "go"
          exact fin _ (by walk_at "st")
        · walk_at "go"
          refine sub_list (xs := [.bool (decide (t < 0)), .bool (decide (0 < t))]) (v := .bool (decide (0 < t))) (by walk_at "own") (by decide) (by decide) rfl (fun _ _ => rfl) ?_
          walk_at "go"
          refine ⟨fun qc => ?_, fun _ => ?_⟩
          · exfalso
            have z := of_decide_eq_false qt
            by_cases z2 : 0 < t
            · rw [decide_eq_true z2, decide_eq_false (by omega)] at qc; cases qc
            · rw [decide_eq_false z2, decide_eq_true (by omega)] at qc; cases qc
          walk_at "go"
          exact fin _ (by walk_at "st")
      · have ep : p = stp rs rs.length := by omega
        subst ep
        refine nx_range_fin G hh S' .head (by omega) ?_
        intro s S'
        have S2 := St.forget (m' := [("begins", .ref ba)]) G S' (.tail (.tail (UpdH.app _ (UpdH.app _ (.tail .head))))) (by walk_at "sub")
        refine ⟨ba, bs, e3, St.sub S2 (List.Sublist.cons_cons _ (List.Sublist.cons _ (List.Sublist.append_left ?_ _)))⟩
        exact (List.Sublist.cons _ (List.Sublist.refl _)).trans (List.sublist_append_right _ _)
    rintro s ⟨ba, bs, e1, S'⟩
    have eb : bs[stp rs rs.length - 1]? = some (bs[stp rs rs.length - 1]'(by omega)) := List.getElem?_eq_getElem _
    generalize bs[stp rs rs.length - 1]'(by omega) = bq at eb
    have hB := objs_mem (f := wnF rs) eb
    simp only [wnF, hz] at hB
    walk_at "go"
    refine sub_list_neg (xs := bs.map V.ref) (v := .ref bq) (by walk_at "own") (by decide) (by simp; omega) (by decide) (by rw [List.length_map, e1, show ((-1 : Int) + ((stp rs rs.length : Nat) : Int)).toNat = stp rs rs.length - 1 by omega]; simp [eb]) (fun _ _ => rfl) ?_
    walk_at "go"
    refine c_bbeq (xs := [false, false]) (ys := [false, false]) (by have := R.units; omega) (by walk_at "own") (by walk_at "own") ?_
    walk_at "go"
    exact h _ (by walk_at "st")
end
section
noncomputable def writtenF (w : List Nat) (m : Int) : List Nat := if m = 0 then [34] ++ w ++ [34] else if m = 1 then (w.map fun d => [92] ++ [d]).flatten else w
theorem lit_quote : (Str.ofString "\"").cps.toList = [34] := by decide +kernel
theorem lit_back : (Str.ofString "\\").cps.toList = [92] := by decide +kernel
theorem written_ok {c : Cx} {A : Around} {s : Shared} {H : List (Addr × O)} {Q : V → Shared → Prop} {w : List Nat} {m : Int} (G : Good c) (R : Room 1 A) (S : St c H s) (hl : w.length ≤ 1000) (ha : w.all (· < 128) = true)
    (h : ∀ s, St c H s → Q (.str (writtenF w m)) s) : callV c A (.ref 127) [.str w, .int m] Q s := by
  refine call_top (cn := []) G S R rfl rfl rfl (by decide) (by decide) (binds2 (p := "word") (p' := "mode") fun _ _ => rfl) rfl rfl (by decide +kernel) ?_
  intro L as s A R' hl' S'
  obtain rfl := len0 hl'
  simp only [zipC, cellsH] at *
  refine T.run S' ?_
  clear S'
  repeat walk_at "ti"
  refine T.body fun A R => ?_
  have hh : A.handled = none := R.handled
  unfold writtenF at h
  repeat walk_at "ti"
  refine T.both (fun q => ?_) (fun q => ?_)
  · have q := of_decide_eq_true q
    rw [if_pos q] at h
    repeat walk_at "ti"
    rw [lit_quote]
    refine T.l2 (fun _ S h => o_sadd S (by simp; omega) h) ?_
    repeat walk_at "ti"
    rw [lit_quote]
    refine T.l2 (fun _ S h => o_sadd S (by simp; omega) h) ?_
    exact fun _ S => h _ (by walk_at "st")
  have q := of_decide_eq_false q
  rw [if_neg q] at h
  repeat walk_at "ti"
  refine T.both (fun q => ?_) (fun q => ?_)
  · have q := of_decide_eq_true q
    rw [if_pos q] at h
    repeat walk_at "ti"
    refine T.l1 (fun _ h => e_CompM (cn := []) (cl := []) G (fun _ => rfl) (by kernel_rfl) rfl (by decide +kernel) (by decide +kernel) h) ?_
    repeat walk_at "ti"
    refine T.l3 (fun _ S h => it_str S ha h) ?_
    intro it
    refine T.compS (by walk_at "mem") fun acc L2 => ?_
    simp only [zipC]
    refine T.of2 (fun _ S h h' => comp_mapS (fun d => .str ([92] ++ [d])) G hh rfl (by decide +kernel) (by omega) S h h') ?_ ?_
    · intro v hv ys i s Q' S' h
      refine T.run S' ?_
      repeat walk_at "ti"
      rw [lit_back]
      refine T.l2 (fun _ S h => o_sadd S (by simp) h) ?_
      exact fun _ S => h _ (by walk_at "st")
    intro s m S'
    refine T.run S' ?_
    refine T.endV .head ?_
    have hj : w.map (fun d => V.str ([92] ++ [d])) = (w.map fun d => [92] ++ [d]).map V.str := by rw [List.map_map]; rfl
    rw [hj]
    repeat walk_at "ti"
    refine T.lS (fun _ S h => k_join S (by walk_at "own") ?_ h) ?_
    · rw [List.length_flatten, List.map_map]
      have : ∀ l : List Nat, (l.map (List.length ∘ fun d => [92] ++ [d])).sum = 2 * l.length := by
        intro l
        induction l with
        | nil => rfl
        | cons x l ih => simp only [List.map_cons, List.sum_cons, ih, List.length_cons]; simp; omega
      rw [this]; omega
    intro s' S'
    exact fun _ S => h _ (by walk_at "st")
  · have q := of_decide_eq_false q
    rw [if_neg q] at h
    repeat walk_at "ti"
    exact fun _ S => h _ (by walk_at "st")
end
section
noncomputable def baseT : List Int := [1, 2, 5, 0, 43, 1, 5, 30, 4]
noncomputable def cellF (ns : List Int) (k : Nat) : Int := (baseT[k]?).getD 0 + (if k < ns.length then ((ns[k]?).getD 0).fmod 54 else 0)
noncomputable def signT : List (List Nat) := [[43], [45], [42, 42, 61], [47, 47], [44], [126]]
noncomputable def bgn (n : Nat) : Nat := if n = 0 then 0 else if n = 1 then 4 else 7
noncomputable def hdF (ns : List Int) (n : Nat) : Int := cellF ns (bgn n)
noncomputable def szF (ns : List Int) (n : Nat) : Nat := (1 + (hdF ns n).fmod (3 - (n : Int))).toNat
noncomputable def stalkL (ns : List Int) (n : Nat) : List (List Nat) := (List.range (szF ns n)).map fun k => (signT[((cellF ns (bgn n + 1 + k)).fmod 6).toNat]?).getD []
noncomputable def sepF (ns : List Int) (n : Nat) : Nat := (([10, 32, 9] : List Nat)[(((hdF ns n).fdiv 18).fmod 3).toNat]?).getD 0
noncomputable def pieceF (ns : List Int) (n : Nat) : List Nat := writtenF (stalkL ns n).flatten (((hdF ns n).fdiv 6).fmod 3) ++ [sepF ns n]
noncomputable def textF (ns : List Int) : Nat → List Nat
  | 0 => []
  | n + 1 => textF ns n ++ pieceF ns n
theorem lit_sep : (Str.ofString "\n \t").cps.toList = [10, 32, 9] := by decide +kernel
theorem writ_len (w : List Nat) (m : Int) : (writtenF w m).length ≤ 2 * w.length + 2 := by
  unfold writtenF
  split
  · simp; omega
  · split
    · have : ∀ l : List Nat, (l.map fun d => [92] ++ [d]).flatten.length = 2 * l.length := by
        intro l
        induction l with
        | nil => rfl
        | cons x l ih => rw [List.map_cons, List.flatten_cons, List.length_append, ih]; simp; omega
      rw [this]; omega
    · omega
theorem sign_ok : ∀ i : Nat, ((signT[i]?).getD []).all (· < 128) = true ∧ ((signT[i]?).getD []).length ≤ 3
  | 0 => by decide
  | 1 => by decide
  | 2 => by decide
  | 3 => by decide
  | 4 => by decide
  | 5 => by decide
  | n + 6 => by simp [signT]
theorem flat_ok (f : Nat → Nat) : ∀ l : List Nat, (l.map fun k => (signT[f k]?).getD []).flatten.all (· < 128) = true ∧ (l.map fun k => (signT[f k]?).getD []).flatten.length ≤ 3 * l.length
  | [] => by simp
  | x :: l => by
    obtain ⟨a, b⟩ := flat_ok f l
    obtain ⟨c, d⟩ := sign_ok (f x)
    rw [List.map_cons, List.flatten_cons, List.all_append, a, c, List.length_append, List.length_cons]
    exact ⟨rfl, by omega⟩
theorem word_ok (ns : List Int) (n : Nat) : (stalkL ns n).flatten.all (· < 128) = true ∧ (stalkL ns n).flatten.length ≤ 3 * szF ns n := by
  have := flat_ok (fun k => ((cellF ns (bgn n + 1 + k)).fmod 6).toNat) (List.range (szF ns n))
  rwa [List.length_range] at this
theorem lit_end : (Str.ofString "end").cps.toList = [101, 110, 100] := by decide +kernel
theorem sz_le (ns : List Int) {n : Nat} (h : n < 3) : szF ns n + n ≤ 3 := by
  have h1 := Int.fmod_nonneg_of_pos (hdF ns n) (show (0 : Int) < 3 - (n : Int) by omega)
  have h2 := Int.fmod_lt_of_pos (hdF ns n) (show (0 : Int) < 3 - (n : Int) by omega)
  unfold szF; omega
theorem text_len (ns : List Int) : ∀ i, i ≤ 3 → (textF ns i).length ≤ 21 * i
  | 0, _ => by simp [textF]
  | n + 1, h => by
    have := text_len ns n (by omega)
    have h1 := sz_le ns (show n < 3 by omega)
    have h2 := (word_ok ns n).2
    have h3 := writ_len (stalkL ns n).flatten (((hdF ns n).fdiv 6).fmod 3)
    simp only [textF, pieceF, List.length_append, List.length_singleton]
    omega
/-- a list that stood before the call -/
noncomputable def OldL (c : Cx) (a : Addr) (xs : List V) : Prop := ∀ (s : Shared) (H : List (Addr × O)), St c H s → Holds s.heap a (.list xs)
theorem OldL.own {c : Cx} {a : Addr} {xs : List V} (o : OldL c a xs) {s : Shared} {H : List (Addr × O)} (S : St c H s) : Holds s.heap a (.list xs) := o s H S
local macro_rules | `(tactic| walk_at "own") => `(tactic| first | assumption | (refine St.has (by assumption) ?_; walk_at "mem") | exact OldL.own (by assumption) (by assumption))
theorem drawn_ok {c : Cx} {A : Around} {s : Shared} {H : List (Addr × O)} {Q : V → Shared → Prop} {sa : Addr} {ns : List Int} (G : Good c) (R : Room 3 A) (S : St c H s) (hm : OldL c sa (ns.map V.int)) (hl : ns.length ≤ 63)
    (h : ∀ t sl ls s, ls.length = 3 → St c ((t, .tup [.ref sl, .str (textF ns 3 ++ [101, 110, 100])]) :: (sl, .list (ls.map V.ref)) :: (objs (fun n => (stalkL ns n).map V.str) ls ++ H)) s → Q (.ref t) s) : callV c A (.ref 132) [.ref sa] Q s := by
  refine call_top (cn := ["script", "signs", "base", "cells", "begin"]) G S R rfl rfl rfl (by decide) (by decide) (binds1 (p := "script") fun _ => rfl) rfl rfl (by decide +kernel) ?_
  intro L as s A R' hl' S'
  obtain ⟨a1, a2, a3, a4, a5, rfl⟩ := len5 hl'
  simp only [zipC, cellsH] at *
  refine T.run S' ?_
  clear S'
  repeat walk_at "ti"
  refine T.body fun A R => ?_
  have hh : A.handled = none := R.handled
  repeat walk_at "ti"
  rename_i sg tb
  refine T.l1 (fun _ h => e_CompM (cn := []) (cl := [("script", a1), ("base", a3)]) G (fun _ => rfl) (by kernel_rfl) rfl (by decide +kernel) (by decide +kernel) h) ?_
  repeat walk_at "ti"
  refine T.l3 (fun _ S h => it_range S (by walk_at "own") (by decide) (by decide) h) ?_
  intro it
  refine T.compR (by walk_at "mem") fun acc L2 => ?_
  simp only [zipC]
  refine T.of2 (fun _ S h h' => comp_mapR (n := 9) (fun k => V.int (cellF ns k)) G hh rfl (by decide +kernel) (by decide) S h h') ?_ ?_
  · intro j hj ys o s Q' S' h
    refine T.run S' ?_
    have hbj : baseT[j]? = some ((baseT[j]?).getD 0) := by
      have : j < baseT.length := hj
      rw [List.getElem?_eq_getElem this]; rfl
    repeat walk_at "ti"
    refine T.lS (fun _ S h => sub_tup (xs := baseT.map V.int) (v := .int ((baseT[j]?).getD 0)) (by walk_at "own") (by omega) (by omega) (by rw [Int.toNat_natCast, List.getElem?_map, hbj]; rfl) (fun _ _ => rfl) h) ?_
    repeat walk_at "ti"
    unfold cellF at h
    refine T.both (fun q => ?_) (fun q => ?_)
    · have q := of_decide_eq_true q
      have q' : j < ns.length := by simpa using q
      have ej : ns[j]? = some ((ns[j]?).getD 0) := by rw [List.getElem?_eq_getElem q']; rfl
      rw [if_pos q'] at h
      repeat walk_at "ti"
      refine T.lS (fun _ S h => sub_list (xs := ns.map V.int) (v := .int ((ns[j]?).getD 0)) (by walk_at "own") (by omega) (by omega) (by rw [Int.toNat_natCast, List.getElem?_map, ej]; rfl) (fun _ _ => rfl) h) ?_
      repeat walk_at "ti"
      exact fun _ S => h _ (by walk_at "st")
    · have q := of_decide_eq_false q
      have q' : ¬ j < ns.length := by simpa using q
      rw [if_neg q'] at h
      repeat walk_at "ti"
      exact fun _ S => h _ (by walk_at "st")
  intro s m S'
  refine T.run S' ?_
  refine T.endV .head ?_
  repeat walk_at "ti"
  refine T.l3 (fun _ S h => it_range S (by walk_at "own") (by decide) (by decide) h) ?_
  intro it
  refine fun s S' => ?_
  refine for_J (fun k s => ∃ sl i ls bv, k = 3 - i ∧ i ≤ 3 ∧ ls.length = i ∧ St c ((it, .raw (rit (i : Nat) (3 - (i : Nat) : Int))) :: (sl, .list (ls.map V.ref)) :: (acc, .list ((List.range 9).map fun k => V.int (cellF ns k))) :: (tb, .tup (baseT.map V.int)) :: (sg, .list (signT.map V.str)) ::
      (a5, .cell bv) :: (a4, .cell (some (.ref acc))) :: (a3, .cell (some (.ref tb))) :: (a2, .cell (some (.ref sg))) :: (a1, .cell (some (.ref sa))) :: (objs (fun n => (stalkL ns n).map V.str) ls ++ (L, .ns [("stalks", .ref sl), ("text", .str (textF ns i))]) :: H)) s)
    (fun s => ∃ sl ls, ls.length = 3 ∧ St c ((sl, .list (ls.map V.ref)) :: (objs (fun n => (stalkL ns n).map V.str) ls ++ (L, .ns [("stalks", .ref sl), ("text", .str (textF ns 3))]) :: H)) s) 3 ⟨_, 0, [], none, rfl, by omega, rfl, by rw [objs_nil]; walk_at "st"⟩ ?_ ?_
  · rintro k s ⟨sl, i, ls, bv, e1, e2, e3, S'⟩
    refine T.run S' ?_
    clear S'
    by_cases q : i < 3
    · refine T.l2 (fun _ S h => nx_range G S .head (by omega) h) ?_
      repeat walk_at "ti"
      refine T.lS (fun _ S h => sub_tup (xs := [.int 0, .int 4, .int 7]) (v := .int (bgn i : Nat)) (by walk_at "own") (by omega) (by omega) (by rw [Int.toNat_natCast]; rcases (show i = 0 ∨ i = 1 ∨ i = 2 by omega) with rfl | rfl | rfl <;> rfl) (fun _ _ => rfl) h) ?_
      repeat walk_at "ti"
      have hb9 : bgn i < 9 := by unfold bgn; split <;> (try split) <;> omega
      have hfm : 0 ≤ (hdF ns i).fmod (3 - (i : Int)) ∧ (hdF ns i).fmod (3 - (i : Int)) < 3 - (i : Int) := ⟨Int.fmod_nonneg_of_pos _ (by omega), Int.fmod_lt_of_pos _ (by omega)⟩
      have hszi : (1 + (hdF ns i).fmod (3 - (i : Int))) = (szF ns i : Nat) := by unfold szF; omega
      have hsz3 : szF ns i + i ≤ 3 := by omega
      refine T.lS (fun _ S h => sub_list (xs := (List.range 9).map fun k => V.int (cellF ns k)) (v := .int (hdF ns i)) (by walk_at "own") (by omega) (by omega) (by rw [Int.toNat_natCast, List.getElem?_map, List.getElem?_range hb9]; rfl) (fun _ _ => rfl) h) ?_
      repeat walk_at "ti"
      rw [hszi]
      refine T.l1 (fun _ h => e_CompM (cn := []) (cl := [("signs", a2), ("cells", a4), ("begin", a5)]) G (fun _ => rfl) (by kernel_rfl) rfl (by decide +kernel) (by decide +kernel) h) ?_
      repeat walk_at "ti"
      refine T.l3 (fun _ S h => it_range S (by walk_at "own") (by decide) (by omega) h) ?_
      intro it2
      rw [show (if (0 : Int) < (szF ns i : Nat) then ((szF ns i : Nat) : Int) - 0 else 0) = (szF ns i : Nat) by split <;> omega]
      refine T.compR (by walk_at "mem") fun acc2 L2 => ?_
      simp only [zipC]
      refine T.of2 (fun _ S h h' => comp_mapR (n := szF ns i) (fun k => V.str ((signT[((cellF ns (bgn i + 1 + k)).fmod 6).toNat]?).getD [])) G hh rfl (by decide +kernel) (by omega) S h h') ?_ ?_
      · intro j hj ys o s Q' S' h
        refine T.run S' ?_
        have hb2 : bgn i + 1 + j < 9 := by unfold bgn; split <;> (try split) <;> omega
        have hf6 : 0 ≤ (cellF ns (bgn i + 1 + j)).fmod 6 ∧ (cellF ns (bgn i + 1 + j)).fmod 6 < 6 := ⟨Int.fmod_nonneg_of_pos _ (by decide), Int.fmod_lt_of_pos _ (by decide)⟩
        repeat walk_at "ti"
        refine T.lS (fun _ S h => sub_list (xs := (List.range 9).map fun k => V.int (cellF ns k)) (v := .int (cellF ns (bgn i + 1 + j))) (by walk_at "own") (by omega) (by omega) (by rw [show ((bgn i : Int) + 1 + (j : Int)).toNat = bgn i + 1 + j by omega, List.getElem?_map, List.getElem?_range hb2]; rfl) (fun _ _ => rfl) h) ?_
        repeat walk_at "ti"
        refine T.lS (fun _ S h => sub_list (xs := signT.map V.str) (by walk_at "own") hf6.1 (by omega) (by rw [List.getElem?_map, List.getElem?_eq_getElem (show ((cellF ns (bgn i + 1 + j)).fmod 6).toNat < signT.length by show _ < 6; omega)]; rfl) (fun _ _ => rfl) h) ?_
        rw [List.getElem?_eq_getElem (show ((cellF ns (bgn i + 1 + j)).fmod 6).toNat < signT.length by show _ < 6; omega)] at h
        exact fun _ S => h _ (by walk_at "st")
      intro s m S'
      refine T.run S' ?_
      refine T.endV .head ?_
      have hst : (List.range (szF ns i)).map (fun k => V.str ((signT[((cellF ns (bgn i + 1 + k)).fmod 6).toNat]?).getD [])) = (stalkL ns i).map V.str := by unfold stalkL; rw [List.map_map]; rfl
      rw [hst]
      repeat walk_at "ti"
      refine T.l2 (fun _ S h => k_append (xs := ls.map V.ref) G S (by walk_at "upd") (by simp; omega) h) ?_
      repeat walk_at "ti"
      refine T.lS (fun _ S h => sub_list (xs := ls.map V.ref ++ [.ref acc2]) (v := .ref acc2) (by walk_at "own") (by omega) (by omega) (by rw [Int.toNat_natCast, ← e3]; simp) (fun _ _ => rfl) h) ?_
      repeat walk_at "ti"
      obtain ⟨wok, wln⟩ := word_ok ns i
      refine T.l2 (fun _ S h => k_join S (by walk_at "own") (by omega) h) ?_
      repeat walk_at "ti"
      refine T.l2 (fun _ S h => ⟨fn_old G S rfl rfl (by decide), written_ok G (R.le (by decide)) S (by omega) wok h⟩) ?_
      repeat walk_at "ti"
      have hf3 : 0 ≤ ((hdF ns i).fdiv 18).fmod 3 ∧ ((hdF ns i).fdiv 18).fmod 3 < 3 := ⟨Int.fmod_nonneg_of_pos _ (by decide), Int.fmod_lt_of_pos _ (by decide)⟩
      have hwr := writ_len (stalkL ns i).flatten (((hdF ns i).fdiv 6).fmod 3)
      rw [lit_sep]
      refine T.l2 (fun _ S h => sub_char (d := sepF ns i) S hf3.1 (by omega) (by unfold sepF; rw [List.getElem?_eq_getElem (show (((hdF ns i).fdiv 18).fmod 3).toNat < ([10, 32, 9] : List Nat).length by show _ < 3; omega)]; rfl) (fun _ _ => rfl) h) ?_
      refine T.l2 (fun _ S h => o_sadd S (by simp; omega) h) ?_
      have htl := text_len ns i (by omega)
      refine T.l2 (fun _ S h => i_sadd S (by simp; omega) h) ?_
      repeat walk_at "ti"
      refine fun s6 S6 => ?_
      refine ⟨3 - (i + 1), by omega, sl, i + 1, ls ++ [acc2], some (.int (bgn i : Nat)), rfl, by omega, by simp [e3], ?_⟩
      have S7 := St.forget (L := L) (m' := [("stalks", .ref sl), ("text", .str (textF ns (i + 1)))]) G S6 (by walk_at "upd") (by walk_at "sub")
      have S8 := St.objP (f := fun n => (stalkL ns n).map V.str) (ws := ls) (a := acc2) (s := s6) (c := c) (H := (L, .ns [("stalks", .ref sl), ("text", .str (textF ns (i + 1)))]) :: H)
        [(it, .raw (rit ((i : Nat) + 1) (3 - (i : Nat) - 1 : Int))), (sl, .list (ls.map V.ref ++ [.ref acc2])), (acc, .list ((List.range 9).map fun k => V.int (cellF ns k))), (tb, .tup (baseT.map V.int)), (sg, .list (signT.map V.str)),
          (a5, .cell (some (.int (bgn i : Nat)))), (a4, .cell (some (.ref acc))), (a3, .cell (some (.ref tb))), (a2, .cell (some (.ref sg))), (a1, .cell (some (.ref sa)))] (by rw [e3]; exact St.sub S7 (by walk_at "sub"))
      rw [List.map_append, show ((i + 1 : Nat) : Int) = (i : Int) + 1 by omega, show (3 : Int) - ((i : Int) + 1) = 3 - (i : Nat) - 1 by omega]
      exact S8
    · have ei : i = 3 := by omega
      subst ei
      refine T.l2 (fun _ S h => nx_range_fin G hh S .head (by omega) h) ?_
      exact fun _ S => ⟨sl, ls, e3, by walk_at "st"⟩
  · rintro s ⟨sl, ls, e1, S'⟩
    refine T.run S' ?_
    clear S'
    have htl := text_len ns 3 (by omega)
    repeat walk_at "ti"
    rw [lit_end]
    refine T.l2 (fun _ S h => o_sadd S (by simp; omega) h) ?_
    repeat walk_at "ti"
    exact fun _ S => h _ sl ls _ e1 (by walk_at "st")
end
section
theorem rc_cons {c : Cx} {A : Around} {s : Shared} {P H : List (Addr × O)} {Q : V → Shared → Prop} {p : Lx} {k d : Nat} {r : List Nat} {ws : List (List Nat)} (G : Good c) (B : LxOk c p) (R : Room 2 A) (S : St c (P ++ LX p k ws H) s) (hd : p.text.drop k = d :: r)
    (h : ∀ s, St c (P ++ LX p (k + 1) ws H) s → Q (.str [d]) s) : codeV c A (.ref 77) [.ref p.x] Q s := by
  have hk := (drop_cons hd).2.2.1
  have hl := B.len
  obtain ⟨fdl, hfdl⟩ := B.fdl
  refine code_top (cn := []) G S R rfl rfl rfl (by decide) (by decide) (binds1 (p := "self") fun _ => rfl) rfl rfl (by decide +kernel) ?_
  intro L as s A R' hl' S'
  obtain rfl := len0 hl'
  simp only [zipC, cellsH] at *
  walk_at "go"
  refine ⟨⟨_, by assumption⟩, fun A R => ?_⟩
  walk_at "go2"
  refine m_fn (fd := fdl) (m := [("read", .ref p.rf)]) (v := .ref p.rf) (by assumption) (by rw [← hfdl]; walk_at "mem") (by walk_at "mem") rfl trivial ?_
  intro s' S'
  walk_at "go2"
  refine ⟨fn_at B.fdr (by assumption) (by walk_at "mem"), B.cons (by assumption) R (by walk_at "mem") (by walk_at "mem") (by walk_at "mem") (by walk_at "upd") hd (by omega) ?_⟩
  intro s' S'
  walk_at "go2"
  rw [lit_nl]
  refine ⟨fun q => ?_, fun q => ?_⟩
  · have q : d = 10 := by simpa using q
    walk_at "go2"
    refine sa_insE G (by assumption) (by walk_at "mem") (lexD_next hd q) (by walk_at "upd") (C94.n1 _) (by simp [lexD]) ?_
    intro s' S'
    walk_at "go2"
    exact h _ (by walk_at "st")
  · have q : d ≠ 10 := by simpa using q
    walk_at "go2"
    refine h _ ?_
    unfold LX
    rw [lexD_same hd q]
    walk_at "st"
theorem rc_nil {c : Cx} {A : Around} {s : Shared} {P H : List (Addr × O)} {Q : V → Shared → Prop} {p : Lx} {k : Nat} {ws : List (List Nat)} (G : Good c) (B : LxOk c p) (R : Room 2 A) (S : St c (P ++ LX p k ws H) s) (hd : p.text.drop k = []) (hk : k ≤ p.text.length)
    (h : ∀ s, St c (P ++ LX p k ws H) s → Q (.str []) s) : codeV c A (.ref 77) [.ref p.x] Q s := by
  have hl := B.len
  obtain ⟨fdl, hfdl⟩ := B.fdl
  refine code_top (cn := []) G S R rfl rfl rfl (by decide) (by decide) (binds1 (p := "self") fun _ => rfl) rfl rfl (by decide +kernel) ?_
  intro L as s A R' hl' S'
  obtain rfl := len0 hl'
  simp only [zipC, cellsH] at *
  walk_at "go"
  refine ⟨⟨_, by assumption⟩, fun A R => ?_⟩
  walk_at "go2"
  refine m_fn (fd := fdl) (m := [("read", .ref p.rf)]) (v := .ref p.rf) (by assumption) (by rw [← hfdl]; walk_at "mem") (by walk_at "mem") rfl trivial ?_
  intro s' S'
  walk_at "go2"
  refine ⟨fn_at B.fdr (by assumption) (by walk_at "mem"), B.nil (k := k) (by assumption) R (by walk_at "mem") (by walk_at "mem") (by walk_at "mem") (by walk_at "mem") hd (by omega) ?_⟩
  intro s' S'
  walk_at "go2"
  rw [lit_nl]
  refine ⟨fun q => by simp at q, fun q => ?_⟩
  walk_at "go2"
  exact h _ (by walk_at "st")
section
variable {c : Cx} {A : Around} {s : Shared} {P H : List (Addr × O)} {p : Lx} {k d : Nat} {r : List Nat} {ws : List (List Nat)} {it bm L : Addr} {fr : O}
@[reducible] noncomputable def alive (p : Lx) (it bm : Addr) (H : List (Addr × O)) : List (Addr × O) := (it, .fld "callable_iterator" [.ref bm, .str [], .bool false]) :: (bm, .fld "method" [.ref 77, .ref p.x]) :: H
@[reducible] noncomputable def ended (p : Lx) (it bm : Addr) (H : List (Addr × O)) : List (Addr × O) := (it, .fld "callable_iterator" [.none, .none, .bool true]) :: (bm, .fld "method" [.ref 77, .ref p.x]) :: H
theorem nx_cons {K : Option V → Shared → Prop} (G : Good c) (B : LxOk c p) (R : Room 3 A) (S : St c (alive p it bm ((L, fr) :: (P ++ LX p k ws H))) s) (hd : p.text.drop k = d :: r)
    (h : ∀ s, St c (alive p it bm ((L, fr) :: (P ++ LX p (k + 1) ws H))) s → K (some (.str [d])) s) : nextV c A (.ref it) K s := by
  refine nx_ci (bm := bm) (f := 77) (x := p.x) G R.handled S (by walk_at "mem") (by walk_at "mem") (G.kx _ _ rfl) rfl (by decide) ?_
  refine rc_cons (P := (it, .fld "callable_iterator" [.ref bm, .str [], .bool false]) :: (bm, .fld "method" [.ref 77, .ref p.x]) :: (L, fr) :: P) (k := k) (ws := ws) (H := H) G B (R.in1) S hd ?_
  intro s S
  exact ⟨[d], _, _, rfl, S, .tail _ (.head _), .head, fun _ => h s S, fun q => absurd q (by simp)⟩
theorem nx_nil {K : Option V → Shared → Prop} (G : Good c) (B : LxOk c p) (R : Room 3 A) (S : St c (alive p it bm ((L, fr) :: (P ++ LX p k ws H))) s) (hd : p.text.drop k = []) (hk : k ≤ p.text.length)
    (h : ∀ s, St c (ended p it bm ((L, fr) :: (P ++ LX p k ws H))) s → K none s) : nextV c A (.ref it) K s := by
  refine nx_ci (bm := bm) (f := 77) (x := p.x) G R.handled S (by walk_at "mem") (by walk_at "mem") (G.kx _ _ rfl) rfl (by decide) ?_
  refine rc_nil (P := (it, .fld "callable_iterator" [.ref bm, .str [], .bool false]) :: (bm, .fld "method" [.ref 77, .ref p.x]) :: (L, fr) :: P) (k := k) (ws := ws) (H := H) G B (R.in1) S hd hk ?_
  intro s S
  exact ⟨[], _, _, rfl, S, .tail _ (.head _), .head, fun q => absurd rfl q, fun _ s S => h s S⟩
theorem ch_cons {Q : V → Shared → Prop} (G : Good c) (B : LxOk c p) (R : Room 2 A) (S : St c (alive p it bm ((L, fr) :: (P ++ LX p k ws H))) s) (hd : p.text.drop k = d :: r)
    (h : ∀ s, St c (alive p it bm ((L, fr) :: (P ++ LX p (k + 1) ws H))) s → Q (.str [d]) s) : callV c A (.ref 77) [.ref p.x] Q s :=
  (rc_cons (P := (it, .fld "callable_iterator" [.ref bm, .str [], .bool false]) :: (bm, .fld "method" [.ref 77, .ref p.x]) :: (L, fr) :: P) (k := k) (ws := ws) (H := H) G B R S hd h).call
theorem ch_nil {Q : V → Shared → Prop} (G : Good c) (B : LxOk c p) (R : Room 2 A) (S : St c (alive p it bm ((L, fr) :: (P ++ LX p k ws H))) s) (hd : p.text.drop k = []) (hk : k ≤ p.text.length)
    (h : ∀ s, St c (alive p it bm ((L, fr) :: (P ++ LX p k ws H))) s → Q (.str []) s) : callV c A (.ref 77) [.ref p.x] Q s :=
  (rc_nil (P := (it, .fld "callable_iterator" [.ref bm, .str [], .bool false]) :: (bm, .fld "method" [.ref 77, .ref p.x]) :: (L, fr) :: P) (k := k) (ws := ws) (H := H) G B R S hd hk h).call
end
end
section
theorem lexQ_q (acc r : List Nat) : lexQ acc (34 :: r) = (acc, r) := by
  cases r <;> simp [lexQ]
theorem lexQ_b1 (acc : List Nat) : lexQ acc [92] = (acc, []) := by simp [lexQ]
theorem lexQ_b2 (acc : List Nat) (e : Nat) (r : List Nat) : lexQ acc (92 :: e :: r) = lexQ (acc ++ [e]) r := by rw [lexQ]; simp
theorem lexQ_s {acc : List Nat} {d : Nat} {r : List Nat} (h1 : d ≠ 34) (h2 : d ≠ 92) : lexQ acc (d :: r) = lexQ (acc ++ [d]) r := by
  cases r with
  | nil => simp [lexQ, h1, h2]
  | cons e r => rw [lexQ]; simp [h1, h2]
theorem lexW_w {acc : List Nat} {d : Nat} {r : List Nat} (h : wsp d = true) : lexW acc (d :: r) = (acc, r) := by
  cases r <;> simp [lexW, h]
theorem w92 : wsp 92 = false := by decide
theorem lexW_b1 (acc : List Nat) : lexW acc [92] = (acc, []) := by simp [lexW, w92]
theorem lexW_b2 (acc : List Nat) (e : Nat) (r : List Nat) : lexW acc (92 :: e :: r) = lexW (acc ++ [e]) r := by rw [lexW]; simp [w92]
theorem lexW_s {acc : List Nat} {d : Nat} {r : List Nat} (h1 : wsp d = false) (h2 : d ≠ 92) : lexW acc (d :: r) = lexW (acc ++ [d]) r := by
  cases r with
  | nil => simp [lexW, h1, h2]
  | cons e r => rw [lexW]; simp [h1, h2]
theorem gt_push {c : Cx} {A : Around} {s : Shared} {P H : List (Addr × O)} {Q : V → Shared → Prop} {p : Lx} {k : Nat} {w : List Nat} {ws : List (List Nat)} (G : Good c) (R : Room 1 A) (S : St c (P ++ LX p k (w :: ws) H) s) (hl : ws.length ≤ 1000)
    (h : ∀ s, St c (P ++ LX p k ws H) s → Q (.str w) s) : callV c A (.ref 84) [.ref p.x] Q s := by
  refine call_top (cn := []) G S R rfl rfl rfl (by decide) (by decide) (binds1 (p := "self") fun _ => rfl) rfl rfl (by decide +kernel) ?_
  intro L as s A R' hl' S'
  obtain rfl := len0 hl'
  simp only [zipC, cellsH] at *
  walk_at "go"
  refine ⟨⟨_, by assumption⟩, fun A R => ?_⟩
  walk_at "go2"
  refine t_list (xs := (w :: ws).map V.str) (by assumption) (by walk_at "own") (by simp; omega) ?_
  intro s' S'
  refine ⟨fun _ => ?_, fun q => by simp at q⟩
  walk_at "go2"
  refine k_pop0 (v := .str w) (vs := ws.map V.str) G (by assumption) (by walk_at "upd") (by simp; omega) ?_
  intro s' S'
  exact h _ (by walk_at "st")
theorem gt_lex {c : Cx} {A : Around} {s : Shared} {P H : List (Addr × O)} {Q : V → Shared → Prop} {p : Lx} {k : Nat} {t r' : List Nat} (G : Good c) (B : LxOk c p) (R : Room 4 A) (S : St c (P ++ LX p k [] H) s) (hk : k ≤ p.text.length) (hx : lexF (p.text.drop k) = (t, r'))
    (h : ∀ k' s, k' ≤ p.text.length → p.text.drop k' = r' → St c (P ++ LX p k' [] H) s → Q (.str t) s) : callV c A (.ref 84) [.ref p.x] Q s := by
  refine call_top (cn := []) G S R rfl rfl rfl (by decide) (by decide) (binds1 (p := "self") fun _ => rfl) rfl rfl (by decide +kernel) ?_
  intro L as s A R' hl' S'
  obtain rfl := len0 hl'
  simp only [zipC, cellsH] at *
  walk_at "go"
  refine ⟨⟨_, by assumption⟩, fun A R => ?_⟩
  have hh : A.handled = none := R.handled
  walk_at "go2"
  refine t_list (xs := ([] : List (List Nat)).map V.str) (by assumption) (by walk_at "own") (by simp) ?_
  intro s' S'
  refine ⟨fun q => by simp at q, fun _ => ?_⟩
  walk_at "go2"
  refine a_bound G (by assumption) (by walk_at "mem") (by walk_at "mem") (C94.rc _) (C94.t77 _) (C94.g77 _) (C94.k77 _) (by decide +kernel) lexD_5 ?_
  intro bm s' S'
  walk_at "go2"
  rw [lit_e]
  refine k_iter (by assumption) (by walk_at "mem") ?_
  intro it s' S'
  walk_at "go2"
  refine it_ci (by walk_at "own") ?_
  rw [lit_e] at *
  refine for_J (fun n s => (∃ k, n = (p.text.drop k).length + 1 ∧ k ≤ p.text.length ∧ lexF (p.text.drop k) = (t, r') ∧ St c (alive p it bm ((L, .ns [("self", .ref p.x), ("token", .str []), ("fiter", .ref it)]) :: (P ++ LX p k [] H))) s) ∨
      (n = 0 ∧ ∃ k, k ≤ p.text.length ∧ p.text.drop k = r' ∧ St c (ended p it bm ((L, .ns [("self", .ref p.x), ("token", .str t), ("fiter", .ref it)]) :: (P ++ LX p k [] H))) s))
    (fun s => ∃ k, k ≤ p.text.length ∧ p.text.drop k = r' ∧ St c ((L, .ns [("self", .ref p.x), ("token", .str t), ("fiter", .ref it)]) :: (P ++ LX p k [] H)) s) _ (.inl ⟨k, rfl, hk, hx, by assumption⟩) ?_ ?_
  · rintro n s (⟨k, en, hk, hx, S1⟩ | ⟨en, k, hk, hr, S1⟩)
    · cases hr : p.text.drop k with
      | nil =>
        rw [hr] at hx
        cases hx
        exact nx_nil G B R S1 hr hk fun s S' => ⟨k, hk, hr, by walk_at "st"⟩
      | cons d r =>
        obtain ⟨hr1, -, hkl, hmem⟩ := drop_cons hr
        have hd : d < 128 := by simpa using List.all_eq_true.mp B.ascii d hmem
        rw [hr] at hx en
        refine nx_cons G B R S1 hr ?_
        intro s S'
        walk_at "go2"
        rw [wsp_in hd]
        unfold lexF at hx
        refine ⟨fun q => ?_, fun q => ?_⟩
        · rw [if_pos q] at hx
          walk_at "go2"
          rename_i s5 S5
          refine ⟨r.length + 1, by simp at en; omega, .inl ⟨k + 1, by rw [hr1], by omega, by rw [hr1]; exact hx, ?_⟩⟩
          exact St.forget (L := L) G S5 (by walk_at "upd") (by walk_at "sub")
        · rw [if_neg (by rw [q]; decide)] at hx
          walk_at "go2"
          rw [lit_q]
          refine ⟨fun q => ?_, fun q => ?_⟩
          · replace q : d = 34 := by simpa using q
            rw [if_pos q] at hx
            walk_at "go2"
            rename_i s5 S5
            have S6 := St.forget (L := L) (m' := [("self", .ref p.x), ("token", .str []), ("fiter", .ref it)]) G S5 (by walk_at "upd") (by walk_at "sub")
            clear S5
            refine it_ci (by walk_at "own") ?_
            refine for_J (fun n s => ∃ k acc, n = (p.text.drop k).length ∧ k ≤ p.text.length ∧ lexQ acc (p.text.drop k) = (t, r') ∧ acc.length ≤ k ∧ St c (alive p it bm ((L, .ns [("self", .ref p.x), ("token", .str acc), ("fiter", .ref it)]) :: (P ++ LX p k [] H))) s)
              (fun s => ∃ k, k ≤ p.text.length ∧ p.text.drop k = r' ∧ St c (ended p it bm ((L, .ns [("self", .ref p.x), ("token", .str t), ("fiter", .ref it)]) :: (P ++ LX p k [] H))) s) _ ⟨k + 1, [], rfl, by omega, by rw [hr1]; exact hx, by simp, S6⟩ ?_ ?_
            · rintro n s ⟨k, acc, en, hk, hx, ha, S1⟩
              have hlen := B.len
              cases hr : p.text.drop k with
              | nil =>
                rw [hr] at hx
                unfold lexQ at hx
                cases hx
                exact nx_nil G B R S1 hr hk fun s S' => ⟨k, hk, hr, S'⟩
              | cons d r =>
                obtain ⟨hr1, -, hkl, hmem⟩ := drop_cons hr
                rw [hr] at hx en
                refine nx_cons G B R S1 hr ?_
                intro s S'
                walk_at "go2"
                rw [lit_q]
                refine ⟨fun q => ?_, fun q => ?_⟩
                · replace q : d = 34 := by simpa using q
                  subst q
                  rw [lexQ_q] at hx
                  cases hx
                  walk_at "go2"
                  exact h _ _ (by omega) hr1 (by walk_at "st")
                replace q34 : d ≠ 34 := by simpa using q
                walk_at "go2"
                rw [lit_b]
                refine ⟨fun q => ?_, fun q => ?_⟩
                · replace q : d = 92 := by simpa using q
                  subst q
                  walk_at "go2"
                  refine ⟨fn_old G (by assumption) rfl rfl (by decide), ?_⟩
                  cases r with
                  | nil =>
                    rw [lexQ_b1] at hx
                    cases hx
                    refine ch_nil G B (R.le (by decide)) (by assumption) hr1 (by omega) ?_
                    intro s S'
                    walk_at "go2"
                    refine i_sadd (by assumption) (by simp; omega) ?_
                    intro s S'
                    walk_at "go2"
                    rename_i s5 S5
                    rw [List.append_nil] at S5
                    refine ⟨0, by simp at en; omega, k + 1, t, by rw [hr1]; rfl, by omega, by rw [hr1]; unfold lexQ; rfl, by omega, ?_⟩
                    exact St.forget (L := L) G S5 (by walk_at "upd") (by walk_at "sub")
                  | cons e r2 =>
                    rw [lexQ_b2] at hx
                    obtain ⟨hr2, -, hkl2, hmem2⟩ := drop_cons hr1
                    refine ch_cons G B (R.le (by decide)) (by assumption) hr1 ?_
                    intro s S'
                    walk_at "go2"
                    refine i_sadd (by assumption) (by simp; omega) ?_
                    intro s S'
                    walk_at "go2"
                    rename_i s5 S5
                    refine ⟨r2.length, by simp at en; omega, k + 1 + 1, acc ++ [e], by rw [hr2], by omega, by rw [hr2]; exact hx, by simp; omega, ?_⟩
                    exact St.forget (L := L) G S5 (by walk_at "upd") (by walk_at "sub")
                · have q92 : d ≠ 92 := by simpa using q
                  rw [lexQ_s q34 q92] at hx
                  walk_at "go2"
                  refine i_sadd (by assumption) (by simp; omega) ?_
                  intro s S'
                  walk_at "go2"
                  rename_i s5 S5
                  refine ⟨r.length, by simp at en; omega, k + 1, acc ++ [d], by rw [hr1], by omega, by rw [hr1]; exact hx, by simp; omega, ?_⟩
                  exact St.forget (L := L) G S5 (by walk_at "upd") (by walk_at "sub")
            · rintro s ⟨k, hk, hr, S1⟩
              walk_at "go2"
              exact ⟨0, by omega, .inr ⟨rfl, k, hk, hr, by assumption⟩⟩
          · replace q34 : d ≠ 34 := by simpa using q
            rw [if_neg q34] at hx
            have hlen := B.len
            refine r_cons ?_
            refine wpS.mono (Q := fun f s => f = F.next ∧ ∃ k1 cv, k < k1 ∧ k1 ≤ p.text.length ∧ lexW cv (p.text.drop k1) = (t, r') ∧ cv.length ≤ 1 ∧ (p.text.drop k1).length < n ∧
              St c (alive p it bm ((L, .ns [("self", .ref p.x), ("token", .str []), ("fiter", .ref it), ("ch", .str cv)]) :: (P ++ LX p k1 [] H))) s) ?_ ?_
            · walk_at "go2"
              rw [lit_b]
              refine ⟨fun q => ?_, fun q => ?_⟩
              · replace q : d = 92 := by simpa using q
                rw [if_pos q] at hx
                walk_at "go2"
                refine ⟨fn_old G (by assumption) rfl rfl (by decide), ?_⟩
                cases r with
                | nil =>
                  cases hx
                  refine ch_nil G B (R.le (by decide)) (by assumption) hr1 (by omega) ?_
                  intro s S'
                  walk_at "go2"
                  exact ⟨rfl, k + 1, [], by omega, by omega, by rw [hr1]; unfold lexW; rfl, by simp, by rw [hr1]; simp at en ⊢; omega, by assumption⟩
                | cons e r2 =>
                  obtain ⟨hr2, -, hkl2, hmem2⟩ := drop_cons hr1
                  refine ch_cons G B (R.le (by decide)) (by assumption) hr1 ?_
                  intro s S'
                  walk_at "go2"
                  exact ⟨rfl, k + 1 + 1, [e], by omega, by omega, by rw [hr2]; exact hx, by simp, by rw [hr2]; simp at en ⊢; omega, by assumption⟩
              · have q92 : d ≠ 92 := by simpa using q
                rw [if_neg q92] at hx
                walk_at "go2"
                exact ⟨rfl, k + 1, [d], by omega, by omega, by rw [hr1]; exact hx, by simp, by rw [hr1]; simp at en ⊢; omega, by assumption⟩
            · rintro f s ⟨rfl, k1, cv, hk1, hk1l, hx, hcv, hn1, S1⟩
              walk_at "go2"
              refine i_sadd (by assumption) (by simp; omega) ?_
              intro s S'
              walk_at "go2"
              rename_i s5 S5
              rw [List.nil_append] at S5
              have S6 := St.forget (L := L) (m' := [("self", .ref p.x), ("token", .str cv), ("fiter", .ref it)]) G S5 (by walk_at "upd") (by walk_at "sub")
              clear S5
              refine it_ci (by walk_at "own") ?_
              refine for_J (fun n s => ∃ k acc, n = (p.text.drop k).length ∧ k ≤ p.text.length ∧ lexW acc (p.text.drop k) = (t, r') ∧ acc.length ≤ k ∧ St c (alive p it bm ((L, .ns [("self", .ref p.x), ("token", .str acc), ("fiter", .ref it)]) :: (P ++ LX p k [] H))) s)
                (fun s => ∃ k, k ≤ p.text.length ∧ p.text.drop k = r' ∧ St c (ended p it bm ((L, .ns [("self", .ref p.x), ("token", .str t), ("fiter", .ref it)]) :: (P ++ LX p k [] H))) s) _ ⟨k1, cv, rfl, by omega, hx, by omega, S6⟩ ?_ ?_
              · rintro n s ⟨k, acc, en, hk, hx, ha, S1⟩
                cases hr : p.text.drop k with
                | nil =>
                  rw [hr] at hx
                  unfold lexW at hx
                  cases hx
                  exact nx_nil G B R S1 hr hk fun s S' => ⟨k, hk, hr, S'⟩
                | cons d r =>
                  obtain ⟨hr1, -, hkl, hmem⟩ := drop_cons hr
                  have hd : d < 128 := by simpa using List.all_eq_true.mp B.ascii d hmem
                  rw [hr] at hx en
                  refine nx_cons G B R S1 hr ?_
                  intro s S'
                  walk_at "go2"
                  rw [wsp_in hd]
                  refine ⟨fun q => ?_, fun q => ?_⟩
                  · rw [lexW_w q] at hx
                    cases hx
                    walk_at "go2"
                    exact h _ _ (by omega) hr1 (by walk_at "st")
                  have qw := q
                  walk_at "go2"
                  rw [lit_b]
                  refine ⟨fun q => ?_, fun q => ?_⟩
                  · replace q : d = 92 := by simpa using q
                    subst q
                    walk_at "go2"
                    refine ⟨fn_old G (by assumption) rfl rfl (by decide), ?_⟩
                    cases r with
                    | nil =>
                      rw [lexW_b1] at hx
                      cases hx
                      refine ch_nil G B (R.le (by decide)) (by assumption) hr1 (by omega) ?_
                      intro s S'
                      walk_at "go2"
                      refine i_sadd (by assumption) (by simp; omega) ?_
                      intro s S'
                      walk_at "go2"
                      rename_i s5 S5
                      rw [List.append_nil] at S5
                      refine ⟨0, by simp at en; omega, k + 1, t, by rw [hr1]; rfl, by omega, by rw [hr1]; unfold lexW; rfl, by omega, ?_⟩
                      exact St.forget (L := L) G S5 (by walk_at "upd") (by walk_at "sub")
                    | cons e r2 =>
                      rw [lexW_b2] at hx
                      obtain ⟨hr2, -, hkl2, hmem2⟩ := drop_cons hr1
                      refine ch_cons G B (R.le (by decide)) (by assumption) hr1 ?_
                      intro s S'
                      walk_at "go2"
                      refine i_sadd (by assumption) (by simp; omega) ?_
                      intro s S'
                      walk_at "go2"
                      rename_i s5 S5
                      refine ⟨r2.length, by simp at en; omega, k + 1 + 1, acc ++ [e], by rw [hr2], by omega, by rw [hr2]; exact hx, by simp; omega, ?_⟩
                      exact St.forget (L := L) G S5 (by walk_at "upd") (by walk_at "sub")
                  · have q92 : d ≠ 92 := by simpa using q
                    rw [lexW_s qw q92] at hx
                    walk_at "go2"
                    refine i_sadd (by assumption) (by simp; omega) ?_
                    intro s S'
                    walk_at "go2"
                    rename_i s5 S5
                    refine ⟨r.length, by simp at en; omega, k + 1, acc ++ [d], by rw [hr1], by omega, by rw [hr1]; exact hx, by simp; omega, ?_⟩
                    exact St.forget (L := L) G S5 (by walk_at "upd") (by walk_at "sub")
              · rintro s ⟨k, hk, hr, S1⟩
                walk_at "go2"
                exact ⟨0, by omega, .inr ⟨rfl, k, hk, hr, by assumption⟩⟩
    · refine nx_ci_ended hh S1 (by walk_at "mem") ?_
      intro s S'
      exact ⟨k, hk, hr, by walk_at "st"⟩
  · rintro s ⟨k, hk, hr, S1⟩
    walk_at "go2"
    exact h _ _ hk hr (by walk_at "st")
end
section
theorem St.front {c : Cx} {s : Shared} {H H' : List (Addr × O)} {a : Addr} {o : O} (S : St c H s) (d : DelH a o H H') : St c ((a, o) :: H') s := S.perm d.perm
theorem UpdH.same {a : Addr} {o : O} : ∀ {H : List (Addr × O)}, (a, o) ∈ H → UpdH a o o H H
  | [], h => nomatch h
  | (b, o') :: H, h => by
    rcases List.mem_cons.mp h with e | h
    · cases e; exact .head
    · exact .tail (UpdH.same h)
theorem pt_ok {c : Cx} {A : Around} {s : Shared} {P H : List (Addr × O)} {Q : V → Shared → Prop} {p : Lx} {k : Nat} {w : List Nat} {ws : List (List Nat)} (G : Good c) (R : Room 1 A) (S : St c (P ++ LX p k ws H) s) (hl : ws.length ≤ 1000)
    (h : ∀ s, St c (P ++ LX p k (ws ++ [w]) H) s → Q .none s) : callV c A (.ref 91) [.ref p.x, .str w] Q s := by
  refine call_top (cn := []) G S R rfl rfl rfl (by decide) (by decide) (binds2 (p := "self") (p' := "token") fun _ _ => rfl) rfl rfl (by decide +kernel) ?_
  intro L as s A R' hl' S'
  obtain rfl := len0 hl'
  simp only [zipC, cellsH] at *
  walk_at "go"
  refine ⟨⟨_, by assumption⟩, fun A R => ?_⟩
  walk_at "go2"
  refine k_append (xs := ws.map V.str) G (by assumption) (by walk_at "upd") (by simp; omega) ?_
  intro s' S'
  walk_at "go2"
  refine h _ ?_
  unfold LX
  rw [List.map_append]
  walk_at "st"
theorem init_ok {c : Cx} {A : Around} {s : Shared} {H : List (Addr × O)} {Q : V → Shared → Prop} {x dx st : Addr} (G : Good c) (R : Room 1 A) (S : St c ((x, .raw (instObj 94 dx)) :: (dx, .dct []) :: H) s)
    (h : ∀ pb s, St c ((pb, .list []) :: (x, .raw (instObj 94 dx)) :: (dx, .dct [("lineno", .int 1), ("instream", .ref st), ("whitespace", .str [10, 9, 13, 32]), ("pushback", .ref pb)]) :: H) s → Q .none s) : codeV c A (.ref 70) [.ref x, .ref st] Q s := by
  refine code_top (cn := []) G S R rfl rfl rfl (by decide) (by decide) (binds2 (p := "self") (p' := "fp") fun _ _ => rfl) rfl rfl (by decide +kernel) ?_
  intro L as s A R' hl' S'
  obtain rfl := len0 hl'
  simp only [zipC, cellsH] at *
  walk_at "go"
  refine ⟨⟨_, by assumption⟩, fun A R => ?_⟩
  walk_at "go2"
  refine sa_insE (m' := [("lineno", .int 1)]) G (by assumption) (by walk_at "mem") rfl (by walk_at "upd") (C94.n1 _) (by simp) ?_
  intro s' S'
  walk_at "go2"
  refine sa_insE (m' := [("lineno", .int 1), ("instream", .ref st)]) G (by assumption) (by walk_at "mem") (by kernel_rfl) (by walk_at "upd") (C94.n2 _) (by simp) ?_
  intro s' S'
  walk_at "go2"
  rw [lit_wsp]
  refine sa_insE (m' := [("lineno", .int 1), ("instream", .ref st), ("whitespace", .str [10, 9, 13, 32])]) G (by assumption) (by walk_at "mem") (by kernel_rfl) (by walk_at "upd") (C94.n3 _) (by simp) ?_
  intro s' S'
  walk_at "go2"
  rename_i pb s5 S5
  refine sa_insE (m' := [("lineno", .int 1), ("instream", .ref st), ("whitespace", .str [10, 9, 13, 32]), ("pushback", .ref pb)]) G (by assumption) (by walk_at "mem") (by kernel_rfl) (by walk_at "upd") (C94.n4 _) (by simp) ?_
  intro s' S'
  walk_at "go2"
  exact h _ _ (by walk_at "st")

theorem lexer_ok {c : Cx} {A : Around} {s : Shared} {H : List (Addr × O)} {Q : V → Shared → Prop} {text : List Nat} (G : Good c) (R : Room 3 A) (S : St c H s) (hl : text.length ≤ 1000) (ha : text.all (· < 128) = true)
    (h : ∀ p s, LxOk c p → p.text = text → St c (LX p 0 [] H) s → Q (.ref p.x) s) : callV c A (.ref 122) [.str text] Q s := by
  refine call_top (cn := ["text", "at"]) G S R rfl rfl rfl (by decide) (by decide) (binds1 (p := "text") fun _ => rfl) rfl rfl (by decide +kernel) ?_
  intro L as s A R' hl' S'
  obtain ⟨a1, a2, rfl⟩ := len2 hl'
  simp only [zipC, cellsH] at *
  walk_at "go"
  refine ⟨⟨_, by assumption⟩, fun A R => ?_⟩
  have hh : A.handled = none := R.handled
  walk_at "go2"
  rename_i al s5 S5
  refine s_Def (cc := 121) (P := 117) (cl := [("text", a1), ("at", a2)]) (fun _ => rfl) G (by assumption) (by decide) (by decide) rfl rfl G.heads.2.2 rfl (by intro q e _; unfold qualAt; rw [e]) (by kernel_rfl) rfl ?_
  intro f cd ct pm s S'
  obtain ⟨fdo, hfdo, S1⟩ : ∃ fdo, fdo = O.clo _ _ ∧ St c ((f, fdo) :: _) s := ⟨_, rfl, S'⟩
  clear S'
  have r0 : VR (.ref f) (.ref f) := rfl
  have read : ∀ {H' H'' : List (Addr × O)} {s : Shared} {A : Around} {Q' : V → Shared → Prop} {k k' : Nat} {w : List Nat}, St c H' s → Room 1 A → (f, fdo) ∈ H' → (a1, O.cell (some (.str text))) ∈ H' → (a2, O.cell (some (.ref al))) ∈ H' → (text.drop k).take 1 = w → k' = k + w.length →
      UpdH al (.list [.int (k : Int)]) (.list [.int (k' : Int)]) H' H'' → k ≤ 1000 → (∀ s, St c H'' s → Q' (.str w) s) → callV c A (.ref f) [.int 1] Q' s := by
    intro H' H'' s A Q' k k' w S R hf h1 h2 hw hk' u hk h
    have hu := u.mem
    rw [hfdo] at hf
    refine call_clo (cn := []) G S R hf (binds1 (p := "size") fun _ => rfl) rfl rfl (by decide +kernel) ?_
    intro L as s A R' hl' S'
    obtain rfl := len0 hl'
    simp only [zipC, cellsH] at *
    walk_at "go"
    refine ⟨⟨_, by assumption⟩, fun A R => ?_⟩
    walk_at "go"
    refine sub_list (xs := [.int (k : Int)]) (v := .int (k : Int)) (by walk_at "own") (by decide) (by decide) rfl (fun _ _ => rfl) ?_
    walk_at "go"
    refine sub_list (xs := [.int (k : Int)]) (v := .int (k : Int)) (by walk_at "own") (by decide) (by decide) rfl (fun _ _ => rfl) ?_
    walk_at "go"
    refine ⟨_, by assumption, fun x' s' S' => ?_⟩
    refine sub_str (by assumption) (by walk_at "own") (by omega) (by omega) (by omega) (fun _ _ => by first | exact Or.inl rfl | exact Or.inr rfl) ?_
    intro s' S'
    rw [Int.toNat_natCast, show ((k : Int) + 1 - (k : Int)).toNat = 1 by omega, hw]
    walk_at "go"
    refine sub_list (xs := [.int (k : Int)]) (v := .int (k : Int)) (by walk_at "own") (by decide) (by decide) rfl (fun _ _ => rfl) ?_
    have hwl : w.length ≤ 1 := by rw [← hw, List.length_take]; omega
    walk_at "go"
    rw [show (k : Int) + (w.length : Int) = (k' : Int) by omega]
    refine set_at (xs := [.int (k : Int)]) (k := 0) G (by assumption) (by walk_at "upd") (by decide) (by simp) (by decide) ?_
    intro s' S'
    walk_at "go"
    exact h _ (by walk_at "st")
  walk_at "go2"
  refine e_Lambda (cc := 121) (P := 117) (cl := []) G (by assumption) rfl (by decide) (by decide) rfl rfl G.heads.2.2 rfl (by intro q e _; unfold qualAt; rw [e]) (by kernel_rfl) ?_
  intro st cd2 ct2 pm2 s S'
  walk_at "go2"
  refine sa_fn (st := st) G (by assumption) (fun d => by walk_at "upd") ?_
  intro sd s S'
  refine T.run (by assumption) ?_
  iterate 5 walk_at "ti2"
  intro s S'
  refine w_cls (v := .ref st) G ?_
  walk_at "go2"
  refine ⟨⟨_, by assumption⟩, codeV.call (k_make G (by assumption) R ?_)⟩
  intro x dx s A R S'
  refine init_ok G R S' ?_
  intro pb s S'
  refine ⟨rfl, ?_⟩
  have T1 := St.front (a := al) S' (by walk_at "del")
  have T2 := St.front (a := a2) T1 (by walk_at "del")
  have T3 := St.front (a := a1) T2 (by walk_at "del")
  have T4 := St.front (a := f) T3 (by walk_at "del")
  have T5 := St.front (a := sd) T4 (by walk_at "del")
  have T6 := St.front (a := st) T5 (by walk_at "del")
  have T7 := St.front (a := pb) T6 (by walk_at "del")
  have T8 := St.front (a := dx) T7 (by walk_at "del")
  have T9 := St.front (a := x) T8 (by walk_at "del")
  refine h ⟨x, dx, pb, st, sd, f, a1, a2, al, fdo, .clo _ (some sd), text⟩ _ ⟨⟨_, hfdo⟩, ⟨_, rfl⟩, hl, ha, ?_, ?_⟩ rfl (St.sub T9 (by walk_at "sub"))
  · intro H s A Q k S R h1 h2 h3 h4 h5 h6 h
    exact read (k := k) (k' := k) (w := []) S R h1 h2 h3 (by rw [show text.drop k = [] from h5]; rfl) rfl (UpdH.same h4) h6 h
  · intro H H' s A Q k d r S R h1 h2 h3 u h5 h6 h
    exact read (k := k) (k' := k + 1) (w := [d]) S R h1 h2 h3 (by rw [show text.drop k = d :: r from h5]; rfl) rfl u h6 h
end
section
set_option Elab.async false
set_option linter.unusedVariables false
set_option maxRecDepth 100000
open PySem
-- the words and their rows
noncomputable def isL (x : List Nat) : Bool := decide (x ∈ ([[43], [42, 42, 61], [44]] : List (List Nat)))
noncomputable def rowL (l : List (List Nat)) : List Int := l.map fun x => if isL x = true then 1 else 0
noncomputable def all1 : List (List (List Nat)) := signT.map fun a => [a]
noncomputable def all2 : List (List (List Nat)) := signT.flatMap fun a => signT.map fun b => [a, b]
noncomputable def all3 (a : List Nat) : List (List (List Nat)) := signT.flatMap fun b => signT.map fun d => [a, b, d]
/-- all that is asked of a stalk's signs -/
noncomputable def stkB (l : List (List Nat)) : Bool := decide (edgesB l.flatten 20 0 = some (rowL l)) && decide (rowL l ∈ allRows) && l.flatten.all (fun d => !wsp d && decide (d ≠ 34) && decide (d ≠ 92) && decide (d < 128)) && decide (l.flatten ≠ []) && decide (l.flatten.length ≤ 9) && decide (l.length ≤ 3)
theorem stk1 : all1.all stkB = true := by decide +kernel
theorem stk2 : all2.all stkB = true := by decide +kernel
theorem stk3_0 : (all3 [43]).all stkB = true := by decide +kernel
theorem stk3_1 : (all3 [45]).all stkB = true := by decide +kernel
theorem stk3_2 : (all3 [42, 42, 61]).all stkB = true := by decide +kernel
theorem stk3_3 : (all3 [47, 47]).all stkB = true := by decide +kernel
theorem stk3_4 : (all3 [44]).all stkB = true := by decide +kernel
theorem stk3_5 : (all3 [126]).all stkB = true := by decide +kernel
theorem stk3 {a : List Nat} (h : a ∈ signT) : (all3 a).all stkB = true := by
  simp only [signT, List.mem_cons, List.not_mem_nil, or_false] at h
  rcases h with rfl | rfl | rfl | rfl | rfl | rfl
  · exact stk3_0
  · exact stk3_1
  · exact stk3_2
  · exact stk3_3
  · exact stk3_4
  · exact stk3_5
theorem sign_mem (ns : List Int) (j : Nat) : (signT[((cellF ns j).fmod 6).toNat]?).getD [] ∈ signT := by
  have h1 := Int.fmod_nonneg_of_pos (cellF ns j) (show (0 : Int) < 6 by decide)
  have h2 := Int.fmod_lt_of_pos (cellF ns j) (show (0 : Int) < 6 by decide)
  have h3 : ((cellF ns j).fmod 6).toNat < signT.length := by show _ < 6; omega
  rw [List.getElem?_eq_getElem h3]
  exact List.getElem_mem h3
theorem sz_pos (ns : List Int) {n : Nat} (h : n < 3) : 1 ≤ szF ns n := by
  have h1 := Int.fmod_nonneg_of_pos (hdF ns n) (show (0 : Int) < 3 - (n : Int) by omega)
  unfold szF; omega
theorem stk_ok (ns : List Int) {n : Nat} (h : n < 3) : stkB (stalkL ns n) = true ∧ (stalkL ns n).length + n ≤ 3 := by
  have h1 := sz_pos ns h
  have h2 := sz_le ns h
  refine ⟨?_, by unfold stalkL; rw [List.length_map, List.length_range]; exact h2⟩
  unfold stalkL
  rcases (show szF ns n = 1 ∨ szF ns n = 2 ∨ szF ns n = 3 by omega) with e | e | e
  · rw [e]
    exact List.all_eq_true.mp stk1 _ (List.mem_map.mpr ⟨_, sign_mem ns _, rfl⟩)
  · rw [e]
    exact List.all_eq_true.mp stk2 _ (List.mem_flatMap.mpr ⟨_, sign_mem ns _, List.mem_map.mpr ⟨_, sign_mem ns _, rfl⟩⟩)
  · rw [e]
    exact List.all_eq_true.mp (stk3 (sign_mem ns _)) _ (List.mem_flatMap.mpr ⟨_, sign_mem ns _, List.mem_map.mpr ⟨_, sign_mem ns _, rfl⟩⟩)
noncomputable def wordF (ns : List Int) (n : Nat) : List Nat := (stalkL ns n).flatten
noncomputable def rowF (ns : List Int) (n : Nat) : List Int := rowL (stalkL ns n)
structure WordOk (w : List Nat) : Prop where
  chars : ∀ d ∈ w, wsp d = false ∧ d ≠ 34 ∧ d ≠ 92 ∧ d < 128
  ne : w ≠ []
  len : w.length ≤ 9
theorem stk_parts {l : List (List Nat)} (h : stkB l = true) : edgesB l.flatten 20 0 = some (rowL l) ∧ rowL l ∈ allRows ∧ WordOk l.flatten ∧ l.length ≤ 3 := by
  unfold stkB at h
  simp only [Bool.and_eq_true, decide_eq_true_eq] at h
  obtain ⟨⟨⟨⟨⟨h1, h2⟩, h3⟩, h4⟩, h5⟩, h6⟩ := h
  refine ⟨h1, h2, ⟨fun d hd => ?_, h4, h5⟩, h6⟩
  have := List.all_eq_true.mp h3 d hd
  simp only [Bool.and_eq_true, decide_eq_true_eq, Bool.not_eq_true'] at this
  exact ⟨this.1.1.1, this.1.1.2, this.1.2, this.2⟩
-- the lexer reads what was written
theorem lexF_eq (d : Nat) (r : List Nat) : lexF (d :: r) = if wsp d = true then lexF r else if d = 34 then lexQ [] r else if d = 92 then (match r with | [] => ([], []) | e :: r' => lexW [e] r') else lexW [d] r := by
  cases r <;> rfl
noncomputable def Rem (r rest : List Nat) : Prop := r = rest ∨ ∃ d, wsp d = true ∧ r = d :: rest
theorem rem_lex {r rest : List Nat} (h : Rem r rest) : lexF r = lexF rest := by
  rcases h with rfl | ⟨d, hd, rfl⟩
  · rfl
  · rw [lexF_eq, if_pos hd]
theorem readQ : ∀ (w acc r : List Nat), (∀ d ∈ w, wsp d = false ∧ d ≠ 34 ∧ d ≠ 92 ∧ d < 128) → lexQ acc (w ++ 34 :: r) = (acc ++ w, r)
  | [], acc, r, _ => by rw [List.nil_append, lexQ_q, List.append_nil]
  | d :: w, acc, r, h => by
    obtain ⟨-, h1, h2, -⟩ := h d (.head _)
    rw [List.cons_append, lexQ_s h1 h2, readQ w _ r fun x hx => h x (.tail _ hx), List.append_assoc]; rfl
theorem readW : ∀ (w acc r : List Nat) (e : Nat), wsp e = true → (∀ d ∈ w, wsp d = false ∧ d ≠ 34 ∧ d ≠ 92 ∧ d < 128) → lexW acc (w ++ e :: r) = (acc ++ w, r)
  | [], acc, r, e, he, _ => by rw [List.nil_append, lexW_w he, List.append_nil]
  | d :: w, acc, r, e, he, h => by
    obtain ⟨h0, h1, h2, -⟩ := h d (.head _)
    rw [List.cons_append, lexW_s h0 h2, readW w _ r e he fun x hx => h x (.tail _ hx), List.append_assoc]; rfl
theorem readE : ∀ (w acc r : List Nat) (e : Nat), wsp e = true → lexW acc ((w.map fun d => [92] ++ [d]).flatten ++ e :: r) = (acc ++ w, r)
  | [], acc, r, e, he => by
    show lexW acc (e :: r) = _
    rw [lexW_w he, List.append_nil]
  | d :: w, acc, r, e, he => by
    show lexW acc (92 :: d :: ((w.map fun d => [92] ++ [d]).flatten ++ e :: r)) = _
    rw [lexW_b2, readE w _ r e he, List.append_assoc]; rfl
theorem read_word {w r : List Nat} {m : Int} {e : Nat} (hw : WordOk w) (he : wsp e = true) : ∃ r', lexF (writtenF w m ++ e :: r) = (w, r') ∧ Rem r' r := by
  obtain ⟨hc, hn, -⟩ := hw
  unfold writtenF
  split
  · refine ⟨e :: r, ?_, .inr ⟨e, he, rfl⟩⟩
    show lexF (34 :: (w ++ [34] ++ e :: r)) = _
    rw [lexF_eq, if_neg (by decide), if_pos rfl, List.append_assoc]
    exact readQ w [] _ hc
  · refine ⟨r, ?_, .inl rfl⟩
    cases w with
    | nil => exact absurd rfl hn
    | cons d w =>
      obtain ⟨h0, h1, h2, -⟩ := hc d (.head _)
      split
      · show lexF (92 :: d :: ((w.map fun d => [92] ++ [d]).flatten ++ e :: r)) = _
        rw [lexF_eq, if_neg (by decide), if_neg (by decide), if_pos rfl]
        exact readE w [d] r e he
      · rw [List.cons_append, lexF_eq, if_neg (by rw [h0]; decide), if_neg h1, if_neg h2]
        exact readW w [d] r e he fun x hx => hc x (.tail _ hx)
theorem sep_wsp (ns : List Int) (n : Nat) : wsp (sepF ns n) = true ∧ sepF ns n < 128 := by
  unfold sepF
  have h1 := Int.fmod_nonneg_of_pos ((hdF ns n).fdiv 18) (show (0 : Int) < 3 by decide)
  have h2 := Int.fmod_lt_of_pos ((hdF ns n).fdiv 18) (show (0 : Int) < 3 by decide)
  rcases (show (((hdF ns n).fdiv 18).fmod 3).toNat = 0 ∨ (((hdF ns n).fdiv 18).fmod 3).toNat = 1 ∨ (((hdF ns n).fdiv 18).fmod 3).toNat = 2 by omega) with e | e | e <;> rw [e] <;> decide
theorem lex_end : lexF [101, 110, 100] = ([101, 110, 100], []) := by
  simp [lexF, lexW, wsp]
theorem lex_nil : lexF [] = ([], []) := rfl
noncomputable def textAll (ns : List Int) : List Nat := textF ns 3 ++ [101, 110, 100]
theorem text_eq (ns : List Int) : textAll ns = writtenF (wordF ns 0) (((hdF ns 0).fdiv 6).fmod 3) ++ sepF ns 0 :: (writtenF (wordF ns 1) (((hdF ns 1).fdiv 6).fmod 3) ++ sepF ns 1 :: (writtenF (wordF ns 2) (((hdF ns 2).fdiv 6).fmod 3) ++ sepF ns 2 :: [101, 110, 100])) := by
  simp [textAll, textF, pieceF, wordF]
theorem writ_ascii {w : List Nat} {m : Int} (hw : WordOk w) : (writtenF w m).all (· < 128) = true := by
  have h0 : w.all (· < 128) = true := List.all_eq_true.mpr fun d hd => by simpa using (hw.chars d hd).2.2.2
  unfold writtenF
  split
  · rw [List.all_append, List.all_append, h0]; rfl
  · split
    · rw [List.all_flatten, List.all_map]
      refine List.all_eq_true.mpr fun d hd => ?_
      have := List.all_eq_true.mp h0 d hd
      simp at this ⊢
      exact this
    · exact h0
theorem wordOk (ns : List Int) {n : Nat} (h : n < 3) : WordOk (wordF ns n) := (stk_parts (stk_ok ns h).1).2.2.1
theorem text_ascii (ns : List Int) : (textAll ns).all (· < 128) = true := by
  rw [text_eq]
  have s0 := (sep_wsp ns 0).2
  have s1 := (sep_wsp ns 1).2
  have s2 := (sep_wsp ns 2).2
  simp only [List.all_append, List.all_cons, writ_ascii (wordOk ns (show 0 < 3 by decide)), writ_ascii (wordOk ns (show 1 < 3 by decide)), writ_ascii (wordOk ns (show 2 < 3 by decide))]
  simp [s0, s1, s2]
theorem text_short (ns : List Int) : (textAll ns).length ≤ 100 := by
  have := text_len ns 3 (by decide)
  unfold textAll
  rw [List.length_append]
  simp
  omega
-- the sums
theorem tot_last (W : List Int → Int) : ∀ rs : List (List Int), totR W rs (stp rs rs.length - 1) = (rs.map W).sum
  | [] => rfl
  | r :: rs => by
    have hp := stp_pos rs rs.length
    have ih := tot_last W rs
    simp only [List.length_cons, stp, totR, List.map_cons, List.sum_cons]
    generalize stp rs rs.length = m at *
    obtain ⟨q, rfl⟩ : ∃ q, m = q + 1 := ⟨m - 1, by omega⟩
    have e1 : (r.length + 1) * (q + 1) - 1 = r.length + (r.length + 1) * q := by rw [Nat.mul_add, Nat.mul_one]; omega
    rw [e1, Nat.add_mul_mod_self_left, Nat.mod_eq_of_lt (by omega), Nat.add_mul_div_left _ _ (by omega), Nat.div_eq_of_lt (by omega), List.take_length]
    simp only [Nat.add_sub_cancel, Nat.zero_add] at ih ⊢
    rw [ih]
theorem row_worth {r : List Int} (h : r ∈ allRows) : worthF r ≤ 4 * (r.length : Int) ∧ -4 * (r.length : Int) ≤ worthF r := by
  have := List.all_eq_true.mp worth_rows r h
  simpa using this
theorem row_good {r : List Int} (h : r ∈ allRows) : goodB r = true := List.all_eq_true.mp short_rows r h
structure OneOk (w : Int) : Prop where
  good : goodB (oneF w) = true
  turned : goodB ((oneF w).map fun e => 1 - e) = true
  worth : worthF (oneF w) = w
  worthT : worthF ((oneF w).map fun e => 1 - e) = -w
  edges : edgesB (stalkF w) 20 0 = some (oneF w)
  len : (stalkF w).length ≤ 20
theorem one_ok {w : Int} (h : -24 ≤ w ∧ w ≤ 24) : OneOk w := by
  have := one_rows (i := (w + 24).toNat) (by omega)
  unfold oneB at this
  have e : (((w + 24).toNat : Nat) : Int) - 24 = w := by omega
  simp only [e, Bool.and_eq_true, decide_eq_true_eq] at this
  obtain ⟨⟨⟨⟨⟨h1, h2⟩, h3⟩, h4⟩, h5⟩, h6⟩ := this
  exact ⟨h1, h2, h3, h4, h5, h6⟩
theorem good_parts {r : List Int} (h : goodB r = true) : Bits r ∧ r.length ≤ 20 ∧ Short r := by
  unfold goodB at h
  simp only [Bool.and_eq_true, decide_eq_true_eq] at h
  obtain ⟨⟨⟨-, h2⟩, h3⟩, h4⟩ := h
  refine ⟨bits_of h2, h3, short_of ?_⟩
  have := List.all_eq_true.mp h4 r.length (List.mem_range.mpr (by omega))
  rwa [List.take_length] at this
theorem rowF_len (ns : List Int) {n : Nat} (h : n < 3) : (rowF ns n).length + n ≤ 3 := by
  unfold rowF rowL; rw [List.length_map]; exact (stk_ok ns h).2
theorem rowF_mem (ns : List Int) {n : Nat} (h : n < 3) : rowF ns n ∈ allRows := (stk_parts (stk_ok ns h).1).2.1
theorem rowF_edges (ns : List Int) {n : Nat} (h : n < 3) : edgesB (wordF ns n) 20 0 = some (rowF ns n) := (stk_parts (stk_ok ns h).1).1
noncomputable def sumF (ns : List Int) : Int := worthF (rowF ns 0) + worthF (rowF ns 1) + worthF (rowF ns 2)
theorem sum_bounds (ns : List Int) : (-24 ≤ worthF (rowF ns 0) + worthF (rowF ns 1) ∧ worthF (rowF ns 0) + worthF (rowF ns 1) ≤ 24) ∧ (-24 ≤ sumF ns ∧ sumF ns ≤ 24) := by
  have a0 := row_worth (rowF_mem ns (show 0 < 3 by decide))
  have a1 := row_worth (rowF_mem ns (show 1 < 3 by decide))
  have a2 := row_worth (rowF_mem ns (show 2 < 3 by decide))
  have b0 := rowF_len ns (show 0 < 3 by decide)
  have b1 := rowF_len ns (show 1 < 3 by decide)
  have b2 := rowF_len ns (show 2 < 3 by decide)
  unfold sumF
  omega
noncomputable def rowsF (ns : List Int) : List (List Int) := [rowF ns 0, rowF ns 1, rowF ns 2, (oneF (sumF ns)).map fun e => 1 - e]
theorem rows_zero (ns : List Int) : totR worthF (rowsF ns) (stp (rowsF ns) (rowsF ns).length - 1) = 0 := by
  rw [tot_last]
  have := (one_ok (sum_bounds ns).2).worthT
  simp only [rowsF, List.map_cons, List.map_nil, List.sum_cons, List.sum_nil, this]
  unfold sumF
  omega
theorem rows_good (ns : List Int) : ∀ r ∈ rowsF ns, goodB r = true := by
  intro r hr
  simp only [rowsF, List.mem_cons, List.not_mem_nil, or_false] at hr
  rcases hr with rfl | rfl | rfl | rfl
  · exact row_good (rowF_mem ns (by decide))
  · exact row_good (rowF_mem ns (by decide))
  · exact row_good (rowF_mem ns (by decide))
  · exact (one_ok (sum_bounds ns).2).turned
theorem stp_small : ∀ (rs : List (List Int)) (n : Nat), (∀ r ∈ rs, r.length ≤ 20) → rs.length ≤ 3 → stp rs n ≤ 21 ^ rs.length
  | rs, 0, _, _ => by simp only [stp]; exact Nat.succ_le_of_lt (Nat.pow_pos (by decide))
  | [], n + 1, _, _ => by simp [stp]
  | r :: rs, n + 1, h, hl => by
    simp only [stp, List.length_cons, Nat.pow_succ]
    have h1 := h r (.head _)
    have h2 := stp_small rs n (fun r hr => h r (.tail _ hr)) (by simp at hl; omega)
    rw [Nat.mul_comm]
    exact Nat.mul_le_mul h2 (by omega)
theorem rows_small (ns : List Int) : ∀ n, n ≤ (rowsF ns).length → stp (rowsF ns) n ≤ 100000 := by
  intro n _
  cases n with
  | zero => simp [stp]
  | succ n =>
    show ((rowF ns 0).length + 1) * stp [rowF ns 1, rowF ns 2, (oneF (sumF ns)).map fun e => 1 - e] n ≤ 100000
    have h0 := rowF_len ns (show 0 < 3 by decide)
    have h2 := stp_small [rowF ns 1, rowF ns 2, (oneF (sumF ns)).map fun e => 1 - e] n (fun r hr => (good_parts (rows_good ns r (.tail _ hr))).2.1) (by simp)
    have : ((rowF ns 0).length + 1) * stp [rowF ns 1, rowF ns 2, (oneF (sumF ns)).map fun e => 1 - e] n ≤ 4 * 21 ^ 3 := Nat.mul_le_mul (by omega) h2
    omega
end
section
section
variable {c : Cx} {A : Around} {s : Shared} {P H : List (Addr × O)} {Q : V → Shared → Prop} {p : Lx} {k : Nat} {w : List Nat} {ws : List (List Nat)} {x1 x2 x3 x4 : Addr × O}
theorem gt1 (G : Good c) (R : Room 1 A) (S : St c (x1 :: (P ++ LX p k (w :: ws) H)) s) (hl : ws.length ≤ 1000) (h : ∀ s, St c (x1 :: (P ++ LX p k ws H)) s → Q (.str w) s) : callV c A (.ref 84) [.ref p.x] Q s := gt_push (P := x1 :: P) G R S hl h
theorem gt2 (G : Good c) (R : Room 1 A) (S : St c (x1 :: x2 :: (P ++ LX p k (w :: ws) H)) s) (hl : ws.length ≤ 1000) (h : ∀ s, St c (x1 :: x2 :: (P ++ LX p k ws H)) s → Q (.str w) s) : callV c A (.ref 84) [.ref p.x] Q s := gt_push (P := x1 :: x2 :: P) G R S hl h
theorem pt3 (G : Good c) (R : Room 1 A) (S : St c (x1 :: x2 :: x3 :: (P ++ LX p k ws H)) s) (hl : ws.length ≤ 1000) (h : ∀ s, St c (x1 :: x2 :: x3 :: (P ++ LX p k (ws ++ [w]) H)) s → Q .none s) : callV c A (.ref 91) [.ref p.x, .str w] Q s := pt_ok (P := x1 :: x2 :: x3 :: P) G R S hl h
end
theorem oneof_ok {c : Cx} {A : Around} {s : Shared} {P H : List (Addr × O)} {Q : V → Shared → Prop} {p : Lx} {k : Nat} {w0 w1 w2 : List Nat} {r0 r1 r2 : List Int} (G : Good c) (R : Room 12 A) (S : St c (P ++ LX p k [w0, w1, w2] H) s)
    (l0 : w0.length ≤ 1000) (l1 : w1.length ≤ 1000) (l2 : w2.length ≤ 1000) (e0 : edgesB w0 20 0 = some r0) (e1 : edgesB w1 20 0 = some r1) (e2 : edgesB w2 20 0 = some r2) (g0 : goodB r0 = true) (g1 : goodB r1 = true) (g2 : goodB r2 = true)
    (b1 : -24 ≤ worthF r0 + worthF r1 ∧ worthF r0 + worthF r1 ≤ 24) (b2 : -24 ≤ worthF r2 + (worthF r0 + worthF r1) ∧ worthF r2 + (worthF r0 + worthF r1) ≤ 24)
    (h : ∀ s, St c (P ++ LX p k [] H) s → Q (.str (stalkF (worthF r2 + (worthF r0 + worthF r1)))) s) : callV c A (.ref 156) [.ref p.x, .int 3] Q s := by
  obtain ⟨p0, q0, t0⟩ := good_parts g0
  obtain ⟨p1, q1, t1⟩ := good_parts g1
  obtain ⟨p2, q2, t2⟩ := good_parts g2
  have o1 := one_ok b1
  obtain ⟨p3, q3, t3⟩ := good_parts o1.good
  refine call_top (cn := []) G S R rfl rfl rfl (by decide) (by decide) (binds2 (p := "lexer") (p' := "count") fun _ _ => rfl) rfl rfl (by decide +kernel) ?_
  intro L as s A R' hl' S'
  obtain rfl := len0 hl'
  simp only [zipC, cellsH] at *
  refine T.run S' ?_
  clear S'
  repeat walk_at "ti"
  refine T.body fun A R => ?_
  repeat walk_at "ti2"
  -- the first turn
  refine T.l1 (fun _ h => whl_step h) ?_
  repeat walk_at "ti2"
  refine T.both (fun hq => ?_) (fun q => absurd q (by decide))
  repeat walk_at "ti2"
  refine T.l2 (fun _ S h => ⟨fn_old G S rfl rfl (by decide), gt1 G (R.le (by decide)) S (by simp) h⟩) ?_
  repeat walk_at "ti2"
  refine T.l3 (fun _ S h => ⟨fn_old G S rfl rfl (by decide), edges_ok G (R.le (by decide)) S l0 e0 (by decide) h⟩) ?_
  intro x0
  repeat walk_at "ti2"
  refine T.l2 (fun _ S h => ⟨fn_old G S rfl rfl (by decide), worth_ok G (R.le (by decide)) S (by walk_at "mem") (by omega) p0 t0 h⟩) ?_
  repeat walk_at "ti2"
  refine T.l2 (fun _ S h => ⟨fn_old G S rfl rfl (by decide), gt2 G (R.le (by decide)) S (by simp) h⟩) ?_
  repeat walk_at "ti2"
  refine T.l3 (fun _ S h => ⟨fn_old G S rfl rfl (by decide), edges_ok G (R.le (by decide)) S l1 e1 (by decide) h⟩) ?_
  intro x1
  repeat walk_at "ti2"
  refine T.l2 (fun _ S h => ⟨fn_old G S rfl rfl (by decide), worth_ok G (R.le (by decide)) S (by walk_at "mem") (by omega) p1 t1 h⟩) ?_
  repeat walk_at "ti2"
  refine T.l2 (fun _ S h => ⟨fn_old G S rfl rfl (by decide), stalk_ok G (R.le (by decide)) S b1 h⟩) ?_
  repeat walk_at "ti2"
  refine T.l2 (fun _ S h => ⟨fn_old G S rfl rfl (by decide), pt3 G (R.le (by decide)) S (by simp) h⟩) ?_
  repeat walk_at "ti2"
  -- the second turn
  refine T.weak (H' := ((L, .ns [("lexer", .ref p.x), ("count", .int (3 - 1))]) :: (P ++ LX p k [w2, stalkF (worthF r0 + worthF r1)] H))) (fun _ S => St.forget (L := L) G (St.sub S (List.Sublist.cons _ (List.Sublist.cons _ (List.Sublist.refl _)))) .head (by walk_at "sub")) ?_
  refine T.l1 (fun _ h => whl_step h) ?_
  repeat walk_at "ti2"
  refine T.both (fun hq => ?_) (fun q => absurd q (by decide))
  repeat walk_at "ti2"
  refine T.l2 (fun _ S h => ⟨fn_old G S rfl rfl (by decide), gt1 G (R.le (by decide)) S (by simp) h⟩) ?_
  repeat walk_at "ti2"
  refine T.l3 (fun _ S h => ⟨fn_old G S rfl rfl (by decide), edges_ok G (R.le (by decide)) S l2 e2 (by decide) h⟩) ?_
  intro x0
  repeat walk_at "ti2"
  refine T.l2 (fun _ S h => ⟨fn_old G S rfl rfl (by decide), worth_ok G (R.le (by decide)) S (by walk_at "mem") (by omega) p2 t2 h⟩) ?_
  repeat walk_at "ti2"
  refine T.l2 (fun _ S h => ⟨fn_old G S rfl rfl (by decide), gt2 G (R.le (by decide)) S (by simp) h⟩) ?_
  repeat walk_at "ti2"
  have ol := o1.len
  refine T.l3 (fun _ S h => ⟨fn_old G S rfl rfl (by decide), edges_ok G (R.le (by decide)) S (by omega) o1.edges (by decide) h⟩) ?_
  intro x1
  repeat walk_at "ti2"
  refine T.l2 (fun _ S h => ⟨fn_old G S rfl rfl (by decide), worth_ok G (R.le (by decide)) S (by walk_at "mem") (by omega) p3 t3 h⟩) ?_
  rw [o1.worth]
  repeat walk_at "ti2"
  refine T.l2 (fun _ S h => ⟨fn_old G S rfl rfl (by decide), stalk_ok G (R.le (by decide)) S b2 h⟩) ?_
  repeat walk_at "ti2"
  refine T.l2 (fun _ S h => ⟨fn_old G S rfl rfl (by decide), pt3 G (R.le (by decide)) S (by simp) h⟩) ?_
  repeat walk_at "ti2"
  refine T.weak (H' := ((L, .ns [("lexer", .ref p.x), ("count", .int (3 - 1 - 1))]) :: (P ++ LX p k [stalkF (worthF r2 + (worthF r0 + worthF r1))] H))) (fun _ S => St.forget (L := L) G (St.sub S (List.Sublist.cons _ (List.Sublist.cons _ (List.Sublist.refl _)))) .head (by walk_at "sub")) ?_
  refine T.l1 (fun _ h => whl_step h) ?_
  repeat walk_at "ti2"
  refine T.both (fun q => absurd q (by decide)) (fun hq => ?_)
  repeat walk_at "ti2"
  refine T.l2 (fun _ S h => ⟨fn_old G S rfl rfl (by decide), gt1 G (R.le (by decide)) S (by simp) h⟩) ?_
  exact fun _ S => h _ (by walk_at "st")
end
section
theorem three {α : Type} {l : List α} (h : l.length = 3) : ∃ a b d, l = [a, b, d] := by
  match l, h with
  | [a, b, d], _ => exact ⟨a, b, d, rfl⟩
theorem lex_all (ns : List Int) : ∃ r1 r2 r3, lexF (textAll ns) = (wordF ns 0, r1) ∧ lexF r1 = (wordF ns 1, r2) ∧ lexF r2 = (wordF ns 2, r3) ∧ lexF r3 = ([101, 110, 100], []) := by
  rw [text_eq]
  obtain ⟨r1, h1, m1⟩ := read_word (r := writtenF (wordF ns 1) (((hdF ns 1).fdiv 6).fmod 3) ++ sepF ns 1 :: (writtenF (wordF ns 2) (((hdF ns 2).fdiv 6).fmod 3) ++ sepF ns 2 :: [101, 110, 100])) (m := ((hdF ns 0).fdiv 6).fmod 3) (wordOk ns (show 0 < 3 by decide)) (sep_wsp ns 0).1
  obtain ⟨r2, h2, m2⟩ := read_word (r := writtenF (wordF ns 2) (((hdF ns 2).fdiv 6).fmod 3) ++ sepF ns 2 :: [101, 110, 100]) (m := ((hdF ns 1).fdiv 6).fmod 3) (wordOk ns (show 1 < 3 by decide)) (sep_wsp ns 1).1
  obtain ⟨r3, h3, m3⟩ := read_word (r := [101, 110, 100]) (m := ((hdF ns 2).fdiv 6).fmod 3) (wordOk ns (show 2 < 3 by decide)) (sep_wsp ns 2).1
  exact ⟨r1, r2, r3, h1, (rem_lex m1).trans h2, (rem_lex m2).trans h3, (rem_lex m3).trans lex_end⟩
section
variable {c : Cx} {A : Around} {s : Shared} {H : List (Addr × O)} {Q : V → Shared → Prop} {p : Lx} {k : Nat} {t r' : List Nat} {y1 y2 y3 y4 y5 y6 : Addr × O}
theorem pt6 {ws : List (List Nat)} (G : Good c) (R : Room 1 A) (S : St c (y1 :: y2 :: y3 :: y4 :: y5 :: y6 :: LX p k ws H) s) (hl : ws.length ≤ 1000)
    (h : ∀ s, St c (y1 :: y2 :: y3 :: y4 :: y5 :: y6 :: LX p k (ws ++ [t]) H) s → Q .none s) : callV c A (.ref 91) [.ref p.x, .str t] Q s := pt_ok (P := [y1, y2, y3, y4, y5, y6]) G R S hl h
theorem oneof5 {w0 w1 w2 : List Nat} {r0 r1 r2 : List Int} (G : Good c) (R : Room 12 A) (S : St c (y1 :: y2 :: y3 :: y4 :: y5 :: LX p k [w0, w1, w2] H) s)
    (l0 : w0.length ≤ 1000) (l1 : w1.length ≤ 1000) (l2 : w2.length ≤ 1000) (e0 : edgesB w0 20 0 = some r0) (e1 : edgesB w1 20 0 = some r1) (e2 : edgesB w2 20 0 = some r2) (g0 : goodB r0 = true) (g1 : goodB r1 = true) (g2 : goodB r2 = true)
    (b1 : -24 ≤ worthF r0 + worthF r1 ∧ worthF r0 + worthF r1 ≤ 24) (b2 : -24 ≤ worthF r2 + (worthF r0 + worthF r1) ∧ worthF r2 + (worthF r0 + worthF r1) ≤ 24)
    (h : ∀ s, St c (y1 :: y2 :: y3 :: y4 :: y5 :: LX p k [] H) s → Q (.str (stalkF (worthF r2 + (worthF r0 + worthF r1)))) s) : callV c A (.ref 156) [.ref p.x, .int 3] Q s := oneof_ok (P := [y1, y2, y3, y4, y5]) G R S l0 l1 l2 e0 e1 e2 g0 g1 g2 b1 b2 h
theorem gl0 (G : Good c) (B : LxOk c p) (R : Room 4 A) (S : St c (LX p k [] H) s) (hk : k ≤ p.text.length) (hx : lexF (p.text.drop k) = (t, r'))
    (h : ∀ k' s, k' ≤ p.text.length → p.text.drop k' = r' → St c (LX p k' [] H) s → Q (.str t) s) : callV c A (.ref 84) [.ref p.x] Q s := gt_lex (P := []) G B R S hk hx h
theorem gl3 (G : Good c) (B : LxOk c p) (R : Room 4 A) (S : St c (y1 :: y2 :: y3 :: LX p k [] H) s) (hk : k ≤ p.text.length) (hx : lexF (p.text.drop k) = (t, r'))
    (h : ∀ k' s, k' ≤ p.text.length → p.text.drop k' = r' → St c (y1 :: y2 :: y3 :: LX p k' [] H) s → Q (.str t) s) : callV c A (.ref 84) [.ref p.x] Q s := gt_lex (P := [y1, y2, y3]) G B R S hk hx h
end
theorem words_ok (ns : List Int) : ∀ v ∈ [wordF ns 0, wordF ns 1, wordF ns 2].map V.str, OkV v := by
  have key : ∀ n, n < 3 → OkV (.str (wordF ns n)) := fun n h => by
    refine List.all_eq_true.mpr fun d hd => ?_
    have := ((wordOk ns h).chars d hd).2.2.2
    simp; omega
  intro v hv
  simp only [List.map_cons, List.map_nil, List.mem_cons, List.not_mem_nil, or_false] at hv
  rcases hv with rfl | rfl | rfl
  · exact key 0 (by decide)
  · exact key 1 (by decide)
  · exact key 2 (by decide)
noncomputable def intF : V → V
  | .str x => .int (if isL x = true then 1 else 0)
  | _ => .none
theorem intF_t {x : List Nat} (h : isL x = true) : intF (.str x) = .int 1 := by
  show V.int (if isL x = true then 1 else 0) = _
  rw [h]; rfl
theorem intF_f {x : List Nat} (h : isL x = false) : intF (.str x) = .int 0 := by
  show V.int (if isL x = true then 1 else 0) = _
  rw [h]; rfl
noncomputable def negF : V → V
  | .int e => .int (1 - e)
  | _ => .none
theorem neg_map (v : List Int) : (v.map V.int).map negF = (v.map fun e => 1 - e).map V.int := by
  rw [List.map_map, List.map_map]; rfl
theorem rowsAt4 {H : List (Addr × O)} {ra a0 a1 a2 a3 : Addr} {r0 r1 r2 r3 : List Int} (hl : (ra, O.list [.ref a0, .ref a1, .ref a2, .ref a3]) ∈ H) (h0 : (a0, O.list (r0.map V.int)) ∈ H) (h1 : (a1, O.list (r1.map V.int)) ∈ H) (h2 : (a2, O.list (r2.map V.int)) ∈ H) (h3 : (a3, O.list (r3.map V.int)) ∈ H)
    (hg : ∀ r ∈ [r0, r1, r2, r3], goodB r = true) (hs : ∀ n, n ≤ 4 → stp [r0, r1, r2, r3] n ≤ 100000) : RowsAt H ra [a0, a1, a2, a3] [r0, r1, r2, r3] := by
  refine ⟨hl, rfl, fun n a r e1 e2 => ?_, hg, (show 4 ≤ 10 by decide), hs⟩
  rcases n with _ | _ | _ | _ | n <;> simp at e1 e2
  · subst e1 e2; exact h0
  · subst e1 e2; exact h1
  · subst e1 e2; exact h2
  · subst e1 e2; exact h3
theorem end_ok (n : Int) : ∀ v ∈ [V.str [101, 110, 100], .str [], .int n], OkV v := by
  intro v hv
  simp only [List.mem_cons, List.not_mem_nil, or_false] at hv
  rcases hv with rfl | rfl | rfl
  · show List.all _ _ = true; decide
  · show List.all _ _ = true; decide
  · trivial
theorem end_ok' (n : Int) : ∀ v ∈ [V.str (Str.ofString "end").cps.toList, .str (Str.ofString "").cps.toList, .int n], OkV v := by
  rw [lit_end, lit_e]; exact end_ok n
theorem end_eq {n m : Int} (h : n = m) : PyData.eqvAll ([V.str [101, 110, 100], .str [], .int n].map PD) ([V.str (Str.ofString "end").cps.toList, .str (Str.ofString "").cps.toList, .int m].map PD) = true := by
  subst h
  rw [lit_end, lit_e]
  simp [PyData.eqvAll, PD, PyData.eqv]
theorem lit_p : (Str.ofString "+").cps.toList = [43] := by decide +kernel
theorem lit_s : (Str.ofString "**=").cps.toList = [42, 42, 61] := by decide +kernel
theorem lit_c : (Str.ofString ",").cps.toList = [44] := by decide +kernel
theorem tup_ok : ∀ v ∈ [(Str.ofString "+").cps.toList, (Str.ofString "**=").cps.toList, (Str.ofString ",").cps.toList].map V.str, OkV v := by
  rw [lit_p, lit_s, lit_c]
  intro v hv
  simp only [List.map_cons, List.map_nil, List.mem_cons, List.not_mem_nil, or_false] at hv
  rcases hv with rfl | rfl | rfl <;> (show List.all _ _ = true; decide)
theorem sign_okv (ns : List Int) (n : Nat) {x : List Nat} (h : x ∈ stalkL ns n) : OkV (.str x) := by
  obtain ⟨k, _, rfl⟩ := List.mem_map.mp h
  have key : signT.all (fun x => x.all (· < 0x110000)) = true := by decide
  exact List.all_eq_true.mp key _ (sign_mem ns _)
theorem row_map (ns : List Int) (n : Nat) : ((stalkL ns n).map V.str).map intF = (rowF ns n).map V.int := by
  unfold rowF rowL
  rw [List.map_map, List.map_map]; rfl
structure StkD (q : List (List Nat)) (w : List Nat) (r : List Int) : Prop where
  flat : q.flatten = w
  len : w.length ≤ 9
  few : q.length ≤ 3
  signs : ∀ x ∈ q, OkV (.str x)
  row : (q.map V.str).map intF = r.map V.int
  edges : edgesB w 20 0 = some r
  good : goodB r = true
structure LawD (T : List Nat) (q0 q1 q2 : List (List Nat)) (w0 w1 w2 : List Nat) (r0 r1 r2 : List Int) : Prop where
  short : T.length ≤ 1000
  ascii : T.all (· < 128) = true
  lex : ∃ t1 t2 t3, lexF T = (w0, t1) ∧ lexF t1 = (w1, t2) ∧ lexF t2 = (w2, t3) ∧ lexF t3 = ([101, 110, 100], [])
  ok : ∀ v ∈ [w0, w1, w2].map V.str, OkV v
  d0 : StkD q0 w0 r0
  d1 : StkD q1 w1 r1
  d2 : StkD q2 w2 r2
  b1 : -24 ≤ worthF r0 + worthF r1 ∧ worthF r0 + worthF r1 ≤ 24
  b2 : -24 ≤ worthF r2 + (worthF r0 + worthF r1) ∧ worthF r2 + (worthF r0 + worthF r1) ≤ 24
  zero : totR worthF [r0, r1, r2, (oneF (worthF r2 + (worthF r0 + worthF r1))).map fun e => 1 - e] (stp [r0, r1, r2, (oneF (worthF r2 + (worthF r0 + worthF r1))).map fun e => 1 - e] 4 - 1) = 0
  rows : ∀ r ∈ [r0, r1, r2, (oneF (worthF r2 + (worthF r0 + worthF r1))).map fun e => 1 - e], goodB r = true
  small : ∀ n, n ≤ 4 → stp [r0, r1, r2, (oneF (worthF r2 + (worthF r0 + worthF r1))).map fun e => 1 - e] n ≤ 100000
theorem stkD (ns : List Int) {n : Nat} (h : n < 3) : StkD (stalkL ns n) (wordF ns n) (rowF ns n) :=
  ⟨rfl, (wordOk ns h).len, by have := (stk_ok ns h).2; omega, fun x hx => sign_okv ns n hx, row_map ns n, rowF_edges ns h, row_good (rowF_mem ns h)⟩
theorem lawD (ns : List Int) : LawD (textAll ns) (stalkL ns 0) (stalkL ns 1) (stalkL ns 2) (wordF ns 0) (wordF ns 1) (wordF ns 2) (rowF ns 0) (rowF ns 1) (rowF ns 2) := by
  have e : sumF ns = worthF (rowF ns 2) + (worthF (rowF ns 0) + worthF (rowF ns 1)) := by unfold sumF; omega
  have hb := sum_bounds ns
  have hz := rows_zero ns
  have hg := rows_good ns
  have hs := rows_small ns
  unfold rowsF at hz hg hs
  rw [e] at hb hz hg hs
  exact ⟨Nat.le_trans (text_short ns) (by decide), text_ascii ns, lex_all ns, words_ok ns, stkD ns (by decide), stkD ns (by decide), stkD ns (by decide), hb.1, hb.2, hz, hg, hs⟩
theorem law_ok {c : Cx} {A : Around} {s : Shared} {sa : Addr} {ns : List Int} (G : Good c) (R : Room 14 A) (S : St c [] s) (hm : OldL c sa (ns.map V.int)) (hl : ns.length ≤ 63) :
    callV c A (.ref 166) [.ref sa] (fun v s => v = .bool true ∧ St c [] s) s := by
  refine call_top (cn := ["lexer"]) G S R rfl rfl rfl (by decide) (by decide) (binds1 (p := "script") fun _ => rfl) rfl rfl (by decide +kernel) ?_
  intro L as s A R' hl' S'
  obtain ⟨a1, rfl⟩ := len1 hl'
  simp only [zipC, cellsH] at *
  refine T.run S' ?_
  clear S'
  repeat walk_at "ti"
  refine T.body fun A R => ?_
  have hh : A.handled = none := R.handled
  repeat walk_at "ti2"
  refine T.l1 (fun _ h => s_AssignT hh rfl rfl rfl h) ?_
  repeat walk_at "ti2"
  refine T.of (fun _ S h => ⟨fn_old G S rfl rfl (by decide), drawn_ok G (R.le (by decide)) S hm hl h⟩) ?_
  intro t sl ls s hls S'
  obtain ⟨l0, l1, l2, rfl⟩ := three hls
  have D := lawD ns
  replace S' : St c ((t, .tup [.ref sl, .str (textAll ns)]) :: (sl, .list [.ref l0, .ref l1, .ref l2]) :: (l0, .list ((stalkL ns 0).map V.str)) :: (l1, .list ((stalkL ns 1).map V.str)) :: (l2, .list ((stalkL ns 2).map V.str)) :: (a1, .cell none) :: (L, .ns [("script", .ref sa)]) :: []) s := S'
  generalize textAll ns = TT at S' D
  generalize stalkL ns 0 = q0 at S' D
  generalize stalkL ns 1 = q1 at S' D
  generalize stalkL ns 2 = q2 at S' D
  generalize wordF ns 0 = w0 at D
  generalize wordF ns 1 = w1 at D
  generalize wordF ns 2 = w2 at D
  generalize rowF ns 0 = u0 at D
  generalize rowF ns 1 = u1 at D
  generalize rowF ns 2 = u2 at D
  clear hm hl
  refine ⟨t, _, _, rfl, S', S'.has (.head _), rfl, ?_⟩
  clear S'
  refine T.un ?_
  repeat walk_at "ti2"
  refine T.of (fun _ S h => ⟨fn_old G S rfl rfl (by decide), lexer_ok G (R.le (by decide)) S D.short D.ascii h⟩) ?_
  intro p s B et S' y r
  refine T.run S' ?_
  clear S'
  repeat walk_at "ti2"
  refine T.weak (H' := LX p 0 [] [(sl, O.list [V.ref l0, V.ref l1, V.ref l2]), (l0, O.list (List.map V.str q0)), (l1, O.list (List.map V.str q1)), (l2, O.list (List.map V.str q2)), (a1, O.cell (some (V.ref p.x))), (L, O.ns [("script", V.ref sa), ("stalks", V.ref sl), ("text", V.str TT)])]) (fun _ S => by walk_at "st") ?_
  obtain ⟨r1, r2, r3, e1, e2, e3, e4⟩ := D.lex
  refine T.l1 (fun _ h => s_AssignCompM (cn := []) (cl := [("lexer", a1)]) G rfl (fun _ => rfl) (by kernel_rfl) rfl (by decide +kernel) (by decide +kernel) h) ?_
  repeat walk_at "ti2"
  refine T.l3 (fun _ S h => it_list (xs := [.ref l0, .ref l1, .ref l2]) S (by walk_at "own") h) ?_
  intro it
  refine T.comp (by walk_at "mem") fun wa L2 => ?_
  simp only [zipC]
  refine T.l1 (fun _ h => comp_step0 h) ?_
  refine T.l2 (fun _ S h => nx_list (xs := [.ref l0, .ref l1, .ref l2]) (v := .ref l0) G S (by walk_at "upd") (by walk_at "own") rfl h) ?_
  repeat walk_at "ti2"
  refine T.of (fun _ S h => ⟨fn_old G S rfl rfl (by decide), gl3 (t := w0) (r' := r1) G B (R.le (by decide)) S (Nat.zero_le _) (by rw [et]; exact e1) h⟩) ?_
  intro k1 s h1 d1 S'
  refine T.run S' ?_
  clear S'
  refine T.l2 (fun _ S h => k_append (xs := []) G S (by walk_at "upd") (by simp) h) ?_
  refine T.l1 (fun _ h => comp_step0 h) ?_
  refine T.l2 (fun _ S h => nx_list (xs := [.ref l0, .ref l1, .ref l2]) (v := .ref l1) G S (by walk_at "upd") (by walk_at "own") rfl h) ?_
  repeat walk_at "ti2"
  refine T.of (fun _ S h => ⟨fn_old G S rfl rfl (by decide), gl3 (t := w1) (r' := r2) G B (R.le (by decide)) S h1 (by rw [d1]; exact e2) h⟩) ?_
  intro k2 s h2 d2 S'
  refine T.run S' ?_
  clear S'
  refine T.l2 (fun _ S h => k_append (xs := [.str w0]) G S (by walk_at "upd") (by simp) h) ?_
  refine T.l1 (fun _ h => comp_step0 h) ?_
  refine T.l2 (fun _ S h => nx_list (xs := [.ref l0, .ref l1, .ref l2]) (v := .ref l2) G S (by walk_at "upd") (by walk_at "own") rfl h) ?_
  repeat walk_at "ti2"
  refine T.of (fun _ S h => ⟨fn_old G S rfl rfl (by decide), gl3 (t := w2) (r' := r3) G B (R.le (by decide)) S h2 (by rw [d2]; exact e3) h⟩) ?_
  intro k3 s h3 d3 S'
  refine T.run S' ?_
  clear S'
  refine T.l2 (fun _ S h => k_append (xs := [.str w0, .str w1]) G S (by walk_at "upd") (by simp) h) ?_
  refine T.l1 (fun _ h => comp_step0 h) ?_
  refine T.l2 (fun _ S h => nx_list_fin (xs := [.ref l0, .ref l1, .ref l2]) G hh S (by walk_at "del") (by walk_at "own") (Nat.le_refl 3) h) ?_
  repeat walk_at "ti2"
  refine T.endV (by walk_at "del") ?_
  refine T.weak (H' := (wa, .list [.str w0, .str w1, .str w2]) :: LX p k3 [] [(sl, O.list [V.ref l0, V.ref l1, V.ref l2]), (l0, O.list (List.map V.str q0)), (l1, O.list (List.map V.str q1)), (l2, O.list (List.map V.str q2)), (a1, O.cell (some (V.ref p.x))), (L, O.ns [("script", V.ref sa), ("stalks", V.ref sl), ("text", V.str TT), ("words", V.ref wa)])]) (fun _ S => S) ?_
  repeat walk_at "ti2"
  refine T.l1 (fun _ h => e_CompM (cn := []) (cl := []) G (fun _ => rfl) (by kernel_rfl) rfl (by decide +kernel) (by decide +kernel) h) ?_
  repeat walk_at "ti2"
  refine T.l3 (fun _ S h => it_list (xs := [.ref l0, .ref l1, .ref l2]) S (by walk_at "own") h) ?_
  intro it
  refine T.comp (by walk_at "mem") fun acc L2 => ?_
  simp only [zipC]
  refine T.l1 (fun _ h => comp_step0 h) ?_
  refine T.l2 (fun _ S h => nx_list (xs := [.ref l0, .ref l1, .ref l2]) (v := .ref l0) G S (by walk_at "upd") (by walk_at "own") rfl h) ?_
  repeat walk_at "ti2"
  refine T.l2 (fun _ S h => k_join (ys := q0) S (by walk_at "own") (by rw [D.d0.flat]; exact Nat.le_trans D.d0.len (by decide)) h) ?_
  rw [D.d0.flat]
  refine T.l2 (fun _ S h => k_append (xs := []) G S (by walk_at "upd") (by simp) h) ?_
  refine T.l1 (fun _ h => comp_step0 h) ?_
  refine T.l2 (fun _ S h => nx_list (xs := [.ref l0, .ref l1, .ref l2]) (v := .ref l1) G S (by walk_at "upd") (by walk_at "own") rfl h) ?_
  repeat walk_at "ti2"
  refine T.l2 (fun _ S h => k_join (ys := q1) S (by walk_at "own") (by rw [D.d1.flat]; exact Nat.le_trans D.d1.len (by decide)) h) ?_
  rw [D.d1.flat]
  refine T.l2 (fun _ S h => k_append (xs := [.str w0]) G S (by walk_at "upd") (by simp) h) ?_
  refine T.l1 (fun _ h => comp_step0 h) ?_
  refine T.l2 (fun _ S h => nx_list (xs := [.ref l0, .ref l1, .ref l2]) (v := .ref l2) G S (by walk_at "upd") (by walk_at "own") rfl h) ?_
  repeat walk_at "ti2"
  refine T.l2 (fun _ S h => k_join (ys := q2) S (by walk_at "own") (by rw [D.d2.flat]; exact Nat.le_trans D.d2.len (by decide)) h) ?_
  rw [D.d2.flat]
  refine T.l2 (fun _ S h => k_append (xs := [.str w0, .str w1]) G S (by walk_at "upd") (by simp) h) ?_
  refine T.l1 (fun _ h => comp_step0 h) ?_
  refine T.l2 (fun _ S h => nx_list_fin (xs := [.ref l0, .ref l1, .ref l2]) G hh S (by walk_at "del") (by walk_at "own") (Nat.le_refl 3) h) ?_
  repeat walk_at "ti2"
  refine T.endV (by walk_at "del") ?_
  repeat walk_at "ti2"
  refine T.lS (fun _ S h => c_sne (xs := [w0, w1, w2]) (ys := [w0, w1, w2]) (by have := R.units; omega) (by walk_at "own") (by walk_at "own") D.ok D.ok h) ?_
  repeat walk_at "ti2"
  refine T.both (fun q => absurd q (by simp)) (fun _ => ?_)
  repeat walk_at "ti2"
  refine T.weak (H' := (acc, .list [.str w0, .str w1, .str w2]) :: (wa, .list [.str w0, .str w1, .str w2]) :: LX p k3 [] [(sl, O.list [V.ref l0, V.ref l1, V.ref l2]), (l0, O.list (List.map V.str q0)), (l1, O.list (List.map V.str q1)), (l2, O.list (List.map V.str q2)), (a1, O.cell (some (V.ref p.x))), (L, O.ns [("script", V.ref sa), ("stalks", V.ref sl), ("text", V.str TT), ("words", V.ref wa)])]) (fun _ S => S) ?_
  refine T.weak (fun _ S => S.tail) ?_
  refine T.l1 (fun _ h => s_AssignCompM (cn := []) (cl := []) G rfl (fun _ => rfl) (by kernel_rfl) rfl (by decide +kernel) (by decide +kernel) h) ?_
  repeat walk_at "ti2"
  refine T.l3 (fun _ S h => it_list (xs := [.str w0, .str w1, .str w2]) S (by walk_at "own") h) ?_
  intro it
  refine T.comp (by walk_at "mem") fun ra L2 => ?_
  simp only [zipC]
  refine T.l1 (fun _ h => comp_step0 h) ?_
  refine T.l2 (fun _ S h => nx_list (xs := [.str w0, .str w1, .str w2]) (v := .str w0) G S (by walk_at "upd") (by walk_at "own") rfl h) ?_
  repeat walk_at "ti2"
  refine T.l3 (fun _ S h => ⟨fn_old G S rfl rfl (by decide), edges_ok G (R.le (by decide)) S (Nat.le_trans D.d0.len (by decide)) D.d0.edges (by decide) h⟩) ?_
  intro x0
  refine T.l2 (fun _ S h => k_append (xs := []) G S (by walk_at "upd") (by simp) h) ?_
  refine T.l1 (fun _ h => comp_step0 h) ?_
  refine T.l2 (fun _ S h => nx_list (xs := [.str w0, .str w1, .str w2]) (v := .str w1) G S (by walk_at "upd") (by walk_at "own") rfl h) ?_
  repeat walk_at "ti2"
  refine T.l3 (fun _ S h => ⟨fn_old G S rfl rfl (by decide), edges_ok G (R.le (by decide)) S (Nat.le_trans D.d1.len (by decide)) D.d1.edges (by decide) h⟩) ?_
  intro x1
  refine T.l2 (fun _ S h => k_append (xs := [.ref x0]) G S (by walk_at "upd") (by simp) h) ?_
  refine T.l1 (fun _ h => comp_step0 h) ?_
  refine T.l2 (fun _ S h => nx_list (xs := [.str w0, .str w1, .str w2]) (v := .str w2) G S (by walk_at "upd") (by walk_at "own") rfl h) ?_
  repeat walk_at "ti2"
  refine T.l3 (fun _ S h => ⟨fn_old G S rfl rfl (by decide), edges_ok G (R.le (by decide)) S (Nat.le_trans D.d2.len (by decide)) D.d2.edges (by decide) h⟩) ?_
  intro x2
  refine T.l2 (fun _ S h => k_append (xs := [.ref x0, .ref x1]) G S (by walk_at "upd") (by simp) h) ?_
  refine T.l1 (fun _ h => comp_step0 h) ?_
  refine T.l2 (fun _ S h => nx_list_fin (xs := [.str w0, .str w1, .str w2]) G hh S (by walk_at "del") (by walk_at "own") (Nat.le_refl 3) h) ?_
  repeat walk_at "ti2"
  refine T.endV (by walk_at "del") ?_
  refine T.weak (H' := (x2, .list (u2.map V.int)) :: (x1, .list (u1.map V.int)) :: (x0, .list (u0.map V.int)) :: (ra, .list [.ref x0, .ref x1, .ref x2]) :: (wa, .list [.str w0, .str w1, .str w2]) :: LX p k3 [] [(sl, O.list [V.ref l0, V.ref l1, V.ref l2]), (l0, O.list (List.map V.str q0)), (l1, O.list (List.map V.str q1)), (l2, O.list (List.map V.str q2)), (a1, O.cell (some (V.ref p.x))), (L, O.ns [("script", V.ref sa), ("stalks", V.ref sl), ("text", V.str TT), ("words", V.ref wa), ("rows", V.ref ra)])]) (fun _ S => S) ?_
  repeat walk_at "ti2"
  refine T.l1 (fun _ h => e_CompM (cn := []) (cl := []) G (fun _ => rfl) (by kernel_rfl) rfl (by decide +kernel) (by decide +kernel) h) ?_
  repeat walk_at "ti2"
  refine T.l3 (fun _ S h => it_list (xs := [.ref l0, .ref l1, .ref l2]) S (by walk_at "own") h) ?_
  intro it
  refine T.comp (by walk_at "mem") fun acc L2 => ?_
  simp only [zipC]
  refine T.l1 (fun _ h => comp_step0 h) ?_
  refine T.l2 (fun _ S h => nx_list (xs := [.ref l0, .ref l1, .ref l2]) (v := .ref l0) G S (by walk_at "upd") (by walk_at "own") rfl h) ?_
  repeat walk_at "ti2"
  refine T.l1 (fun _ h => e_CompM (cn := []) (cl := []) G (fun _ => rfl) (by kernel_rfl) rfl (by decide +kernel) (by decide +kernel) h) ?_
  repeat walk_at "ti2"
  refine T.l3 (fun _ S h => it_list (xs := q0.map V.str) S (by walk_at "own") h) ?_
  intro it2
  refine T.comp (by walk_at "mem") fun z0 L3 => ?_
  simp only [zipC]
  refine T.of2 (fun _ S h h' => comp_map intF G hh rfl (by decide +kernel) (by walk_at "mem") (by have := D.d0.few; simp; omega) S h h') ?_ ?_
  · intro v hv ys i s Q' S7 h
    obtain ⟨x, hx, rfl⟩ := List.mem_map.mp hv
    refine T.run S7 ?_
    clear S7
    repeat walk_at "ti2"
    refine T.lS (fun _ S h => c_intup (ys := [(Str.ofString "+").cps.toList, (Str.ofString "**=").cps.toList, (Str.ofString ",").cps.toList]) (by have := R.units; omega) (by walk_at "own") tup_ok (D.d0.signs _ hx) h) ?_
    rw [lit_p, lit_s, lit_c]
    repeat walk_at "ti2"
    refine T.both (fun q => ?_) (fun q => ?_)
    · rw [intF_t q] at h
      repeat walk_at "ti2"
      exact fun _ S => h _ (by walk_at "st")
    · rw [intF_f q] at h
      repeat walk_at "ti2"
      exact fun _ S => h _ (by walk_at "st")
  intro s m S7
  rw [D.d0.row] at S7
  refine T.run S7 ?_
  clear S7
  refine T.endV .head ?_
  refine T.l2 (fun _ S h => k_append (xs := []) G S (by walk_at "upd") (by simp) h) ?_
  refine T.l1 (fun _ h => comp_step0 h) ?_
  refine T.l2 (fun _ S h => nx_list (xs := [.ref l0, .ref l1, .ref l2]) (v := .ref l1) G S (by walk_at "upd") (by walk_at "own") rfl h) ?_
  repeat walk_at "ti2"
  refine T.l1 (fun _ h => e_CompM (cn := []) (cl := []) G (fun _ => rfl) (by kernel_rfl) rfl (by decide +kernel) (by decide +kernel) h) ?_
  repeat walk_at "ti2"
  refine T.l3 (fun _ S h => it_list (xs := q1.map V.str) S (by walk_at "own") h) ?_
  intro it2
  refine T.comp (by walk_at "mem") fun z1 L3 => ?_
  simp only [zipC]
  refine T.of2 (fun _ S h h' => comp_map intF G hh rfl (by decide +kernel) (by walk_at "mem") (by have := D.d1.few; simp; omega) S h h') ?_ ?_
  · intro v hv ys i s Q' S7 h
    obtain ⟨x, hx, rfl⟩ := List.mem_map.mp hv
    refine T.run S7 ?_
    clear S7
    repeat walk_at "ti2"
    refine T.lS (fun _ S h => c_intup (ys := [(Str.ofString "+").cps.toList, (Str.ofString "**=").cps.toList, (Str.ofString ",").cps.toList]) (by have := R.units; omega) (by walk_at "own") tup_ok (D.d1.signs _ hx) h) ?_
    rw [lit_p, lit_s, lit_c]
    repeat walk_at "ti2"
    refine T.both (fun q => ?_) (fun q => ?_)
    · rw [intF_t q] at h
      repeat walk_at "ti2"
      exact fun _ S => h _ (by walk_at "st")
    · rw [intF_f q] at h
      repeat walk_at "ti2"
      exact fun _ S => h _ (by walk_at "st")
  intro s m S7
  rw [D.d1.row] at S7
  refine T.run S7 ?_
  clear S7
  refine T.endV .head ?_
  refine T.l2 (fun _ S h => k_append (xs := [.ref z0]) G S (by walk_at "upd") (by simp) h) ?_
  refine T.l1 (fun _ h => comp_step0 h) ?_
  refine T.l2 (fun _ S h => nx_list (xs := [.ref l0, .ref l1, .ref l2]) (v := .ref l2) G S (by walk_at "upd") (by walk_at "own") rfl h) ?_
  repeat walk_at "ti2"
  refine T.l1 (fun _ h => e_CompM (cn := []) (cl := []) G (fun _ => rfl) (by kernel_rfl) rfl (by decide +kernel) (by decide +kernel) h) ?_
  repeat walk_at "ti2"
  refine T.l3 (fun _ S h => it_list (xs := q2.map V.str) S (by walk_at "own") h) ?_
  intro it2
  refine T.comp (by walk_at "mem") fun z2 L3 => ?_
  simp only [zipC]
  refine T.of2 (fun _ S h h' => comp_map intF G hh rfl (by decide +kernel) (by walk_at "mem") (by have := D.d2.few; simp; omega) S h h') ?_ ?_
  · intro v hv ys i s Q' S7 h
    obtain ⟨x, hx, rfl⟩ := List.mem_map.mp hv
    refine T.run S7 ?_
    clear S7
    repeat walk_at "ti2"
    refine T.lS (fun _ S h => c_intup (ys := [(Str.ofString "+").cps.toList, (Str.ofString "**=").cps.toList, (Str.ofString ",").cps.toList]) (by have := R.units; omega) (by walk_at "own") tup_ok (D.d2.signs _ hx) h) ?_
    rw [lit_p, lit_s, lit_c]
    repeat walk_at "ti2"
    refine T.both (fun q => ?_) (fun q => ?_)
    · rw [intF_t q] at h
      repeat walk_at "ti2"
      exact fun _ S => h _ (by walk_at "st")
    · rw [intF_f q] at h
      repeat walk_at "ti2"
      exact fun _ S => h _ (by walk_at "st")
  intro s m S7
  rw [D.d2.row] at S7
  refine T.run S7 ?_
  clear S7
  refine T.endV .head ?_
  refine T.l2 (fun _ S h => k_append (xs := [.ref z0, .ref z1]) G S (by walk_at "upd") (by simp) h) ?_
  refine T.l1 (fun _ h => comp_step0 h) ?_
  refine T.l2 (fun _ S h => nx_list_fin (xs := [.ref l0, .ref l1, .ref l2]) G hh S (by walk_at "del") (by walk_at "own") (Nat.le_refl 3) h) ?_
  repeat walk_at "ti2"
  refine T.endV (by walk_at "del") ?_
  repeat walk_at "ti2"
  refine T.lS (fun _ S h => c_inne (vs := [.ref x0, .ref x1, .ref x2]) (ws := [.ref z0, .ref z1, .ref z2]) (xs := [u0, u1, u2]) (ys := [u0, u1, u2]) (by have := R.units; omega) (S.has (.tail _ (.tail _ (.tail _ (.tail _ (.tail _ (.tail _ (.tail _ (.head _))))))))) ⟨⟨x0, rfl, (S.has (.tail _ (.tail _ (.tail _ (.tail _ (.tail _ (.tail _ (.head _)))))))), fun w hw => (ok_ints _ w hw).flat⟩, ⟨x1, rfl, (S.has (.tail _ (.tail _ (.tail _ (.tail _ (.tail _ (.head _))))))), fun w hw => (ok_ints _ w hw).flat⟩, ⟨x2, rfl, (S.has (.tail _ (.tail _ (.tail _ (.tail _ (.head _)))))), fun w hw => (ok_ints _ w hw).flat⟩, trivial⟩ (S.has (.tail _ (.tail _ (.tail _ (.head _))))) ⟨⟨z0, rfl, (S.has (.tail _ (.tail _ (.head _)))), fun w hw => (ok_ints _ w hw).flat⟩, ⟨z1, rfl, (S.has (.tail _ (.head _))), fun w hw => (ok_ints _ w hw).flat⟩, ⟨z2, rfl, (S.has (.head _)), fun w hw => (ok_ints _ w hw).flat⟩, trivial⟩ h) ?_
  repeat walk_at "ti2"
  refine T.both (fun q => absurd q (by simp)) (fun _ => ?_)
  repeat walk_at "ti2"
  refine T.weak (fun _ S => S.tail.tail.tail.tail) ?_
  refine T.l3 (fun _ S h => it_list (xs := [.str w0, .str w1, .str w2]) S (by walk_at "own") h) ?_
  intro it
  refine T.l1 (fun _ h => for_step h ⟨_, rfl⟩) ?_
  refine T.l2 (fun _ S h => nx_list (xs := [.str w0, .str w1, .str w2]) (v := .str w0) G S (by walk_at "upd") (by walk_at "own") rfl h) ?_
  repeat walk_at "ti2"
  refine T.l2 (fun _ S h => ⟨fn_old G S rfl rfl (by decide), pt6 (ws := []) G (R.le (by decide)) S (by simp) h⟩) ?_
  repeat walk_at "ti2"
  refine T.l1 (fun _ h => for_step h ⟨_, rfl⟩) ?_
  refine T.l2 (fun _ S h => nx_list (xs := [.str w0, .str w1, .str w2]) (v := .str w1) G S (by walk_at "upd") (by walk_at "own") rfl h) ?_
  repeat walk_at "ti2"
  refine T.l2 (fun _ S h => ⟨fn_old G S rfl rfl (by decide), pt6 (ws := [w0]) G (R.le (by decide)) S (by simp) h⟩) ?_
  repeat walk_at "ti2"
  refine T.l1 (fun _ h => for_step h ⟨_, rfl⟩) ?_
  refine T.l2 (fun _ S h => nx_list (xs := [.str w0, .str w1, .str w2]) (v := .str w2) G S (by walk_at "upd") (by walk_at "own") rfl h) ?_
  repeat walk_at "ti2"
  refine T.l2 (fun _ S h => ⟨fn_old G S rfl rfl (by decide), pt6 (ws := [w0, w1]) G (R.le (by decide)) S (by simp) h⟩) ?_
  repeat walk_at "ti2"
  refine T.l1 (fun _ h => for_step h ⟨_, rfl⟩) ?_
  refine T.l2 (fun _ S h => nx_list_fin (xs := [.str w0, .str w1, .str w2]) G hh S (by walk_at "del") (by walk_at "own") (Nat.le_refl 3) h) ?_
  repeat walk_at "ti2"
  have O1 := one_ok D.b2
  refine T.l2 (fun _ S h => ⟨fn_old G S rfl rfl (by decide), oneof5 (w0 := w0) (w1 := w1) (w2 := w2) (r0 := u0) (r1 := u1) (r2 := u2) G (R.le (by decide)) S (Nat.le_trans D.d0.len (by decide)) (Nat.le_trans D.d1.len (by decide)) (Nat.le_trans D.d2.len (by decide)) D.d0.edges D.d1.edges D.d2.edges D.d0.good D.d1.good D.d2.good D.b1 D.b2 h⟩) ?_
  have Z := D.zero
  have ZR := D.rows
  have ZS := D.small
  have E1 := O1.edges
  have N1 := O1.len
  have N2 := (good_parts O1.good).2.1
  clear O1
  generalize worthF u2 + (worthF u0 + worthF u1) = W at *
  generalize oneF W = v at *
  generalize stalkF W = y at *
  repeat walk_at "ti2"
  refine T.l3 (fun _ S h => ⟨fn_old G S rfl rfl (by decide), edges_ok G (R.le (by decide)) S (Nat.le_trans N1 (by decide)) E1 (by decide) h⟩) ?_
  intro o1
  repeat walk_at "ti2"
  refine T.l1 (fun _ h => e_CompM (cn := []) (cl := []) G (fun _ => rfl) (by kernel_rfl) rfl (by decide +kernel) (by decide +kernel) h) ?_
  repeat walk_at "ti2"
  refine T.l3 (fun _ S h => it_list (xs := v.map V.int) S (by walk_at "own") h) ?_
  intro it
  refine T.comp (by walk_at "mem") fun o2 L2 => ?_
  simp only [zipC]
  refine T.of2 (fun _ S h h' => comp_map negF G hh rfl (by decide +kernel) (by walk_at "mem") (by simp; omega) S h h') ?_ ?_
  · intro x hx ys i s Q' S8 h
    obtain ⟨e, _, rfl⟩ := List.mem_map.mp hx
    refine T.run S8 ?_
    clear S8
    repeat walk_at "ti2"
    exact fun _ S => h _ (by walk_at "st")
  intro s m S8
  rw [neg_map] at S8
  refine T.run S8 ?_
  clear S8
  refine T.endV .head ?_
  repeat walk_at "ti2"
  refine T.l3 (fun _ S h => o_ladd (xs := [.ref x0, .ref x1, .ref x2]) (ys := [.ref o2]) S (by walk_at "own") (by walk_at "own") (by simp) h) ?_
  intro rr
  repeat walk_at "ti2"
  refine T.l2 (fun _ S h => ⟨fn_old G S rfl rfl (by decide), played_ok G (R.le (by decide)) S (rowsAt4 (by walk_at "mem") (by walk_at "mem") (by walk_at "mem") (by walk_at "mem") (by walk_at "mem") ZR ZS) Z h⟩) ?_
  repeat walk_at "ti2"
  refine T.both (fun q => absurd q (by decide)) (fun _ => ?_)
  refine T.weak (H' := LX p k3 [] [(a1, O.cell (some (V.ref p.x))), (L, O.ns [("script", V.ref sa), ("stalks", V.ref sl), ("text", V.str TT), ("words", V.ref wa), ("rows", V.ref ra), ("word", .str w2), ("one", .ref o1)])]) (fun _ S => by walk_at "st") ?_
  repeat walk_at "ti2"
  refine T.of (fun _ S h => ⟨fn_old G S rfl rfl (by decide), gl0 (t := [101, 110, 100]) (r' := []) G B (R.le (by decide)) S h3 (by rw [d3]; exact e4) h⟩) ?_
  intro k4 s h4 d4 S'
  refine T.run S' ?_
  clear S'
  repeat walk_at "ti2"
  refine T.of (fun _ S h => ⟨fn_old G S rfl rfl (by decide), gl0 (t := []) (r' := []) G B (R.le (by decide)) S h4 (by rw [d4]; exact lex_nil) h⟩) ?_
  intro k5 s h5 d5 S'
  refine T.run S' ?_
  clear S'
  repeat walk_at "ti2"
  rw [lit_nl]
  refine T.l2 (fun _ S h => k_count S h) ?_
  rw [count_nl]
  repeat walk_at "ti2"
  have ek : p.text.take k5 = TT := by rw [List.take_of_length_le (List.drop_eq_nil_iff.mp d5), et]
  refine T.lS (fun _ S h => c_leq (xs := [.str [101, 110, 100], .str [], .int ((1 + nl (p.text.take k5) : Nat) : Int)]) (ys := [.str (Str.ofString "end").cps.toList, .str (Str.ofString "").cps.toList, .int (1 + (nl TT : Int))]) (by have := R.units; omega)
    (fun v hv => (end_ok _ v hv).flat) (fun v hv => (end_ok' _ v hv).flat) (by walk_at "own") (by walk_at "own") (shaped_flat (end_ok _)) (shaped_flat (end_ok' _)) h) ?_
  rw [end_eq (by rw [ek]; omega)]
  exact fun _ S => ⟨rfl, by walk_at "st"⟩
end
section
open PySem PySem.W PySem.Calls PyProof.Rows
set_option Elab.async false
set_option maxRecDepth 100000
set_option maxHeartbeats 4000000
set_option linter.unusedVariables false
noncomputable def gv (K : Frag) (x : Str) : Option V := match nsIn K mainGlobals x with
  | some (some (.int i _)) => some (.int i)
  | some (some (.ref a)) => some (.ref a)
  | _ => none
theorem gv_of {K : Frag} {h : Heap} {mg : Str → Option Value} {x : Str} {v : V} (X : K.In h) (G : h.Ns mainGlobals mg) (e : gv K x = some v) : ∃ y, mg x = some y ∧ VR v y := by
  unfold gv at e
  split at e
  · cases e; exact ⟨_, mg_of X G (by assumption), _, rfl⟩
  · cases e; exact ⟨_, mg_of X G (by assumption), rfl⟩
  · cases e
noncomputable def bv (x : Str) : Option V := match bootBuiltins x with
  | some (.builtin i) => some (.bi i)
  | some (.type n) => some (.ty n)
  | _ => none
theorem bv_of {mb : Str → Option Value} {x : Str} {v : V} (T : mb x = bootBuiltins x) (e : bv x = some v) : ∃ y, mb x = some y ∧ VR v y := by
  unfold bv at e
  split at e
  · cases e; exact ⟨_, T.trans (by assumption), rfl⟩
  · cases e; exact ⟨_, T.trans (by assumption), rfl⟩
  · cases e
theorem bv_tab : biTab.map (fun p => bv p.1) = biTab.map (fun p => some p.2) := by kernel_rfl
theorem bi_name : biTab.all (fun p => p.1 != "__name__") = true := by decide +kernel
theorem mem_look {α β : Type} [BEq α] [LawfulBEq α] : ∀ {l : List (α × β)} {a : α} {b : β}, l.lookup a = some b → (a, b) ∈ l
  | [], _, _, e => by cases e
  | (x, y) :: l, a, b, e => by
    rw [List.lookup_cons] at e
    cases q : a == x with
    | true => rw [q] at e; cases e; rw [eq_of_beq q]; exact .head _
    | false => rw [q] at e; exact .tail _ (mem_look e)
noncomputable def codeQ (K : Frag) (a : Addr) : Option Str := match K.lookup a with
  | some ⟨_, _, .fields fs, _⟩ => (match (fs[1]? : Option Value) with
    | some (.str q _) => some q
    | _ => none)
  | _ => none
theorem codeQ_of {K : Frag} {h : Heap} {a : Addr} {q : Str} (X : K.In h) (e : codeQ K a = some q) : ∃ o fs t, h.get? a = some o ∧ o.data = .fields fs ∧ fs[1]? = some (.str q t) := by
  unfold codeQ at e
  split at e
  · split at e
    · cases e; exact ⟨_, _, _, X _ _ (by assumption), rfl, by assumption⟩
    · cases e
  · cases e
/-- what is asked of the head's own fragment -/
structure KOk (K : Frag) (P : Params) : Prop where
  ko : (KO P).map (fun p => K.lookup p.1) = (KO P).map (fun p => some p.2)
  codes : codeTab.map (fun p => codeQ K p.1) = codeTab.map (fun p => some p.2)
  h1 : codeHdIn K 34 30 = true
  h2 : codeHdIn K 41 37 = true
  h3 : codeHdIn K 121 117 = true
  gv : globTab.map (fun p => gv K p.1) = globTab.map (fun p => some p.2)
  bi : biTab.map (fun p => nsIn K mainGlobals p.1) = biTab.map (fun _ => some none)
  tok : ∃ es n, K.lookup 99 = some ⟨.type "dict", none, .dict es n, #[]⟩ ∧ KeysLit P es.toList ∧ TokR tokTab es.toList
theorem good_of {prog p : Program} {w : World} {s₁ : Shared} {loose : List Str} {mean : ExcName → Option Value} {mg mb : Str → Option Value} {K : Params → Frag} (T : Top p loose mean mg mb s₁.heap) (KX : (K w.params).In s₁.heap) (k : KOk (K w.params) w.params)
    (hT : ∀ P ∈ tabsL, s₁.heap.get? P = some (tabObj #[])) : Good ⟨prog, w, s₁⟩ where
  tabs := fun P hP => ⟨_, hT P hP⟩
  glob := ⟨mg, mb, T.g, T.b, fun x v h => gv_of KX T.g (List.map_inj_left.mp k.gv (x, v) h), fun x v h =>
    ⟨mg_none_of KX T.g (List.map_inj_left.mp k.bi (x, v) h), bv_of (T.builtins x (by have := List.all_eq_true.mp bi_name (x, v) h; simpa using this)) (List.map_inj_left.mp bv_tab (x, v) h)⟩⟩
  nolimit := T.nolimit
  kx := fun a o e => KX a o (List.map_inj_left.mp k.ko (a, o) (mem_look e))
  codes := fun ca q e => codeQ_of KX (List.map_inj_left.mp k.codes (ca, q) (mem_look e))
  heads := ⟨codeHd_of_K KX k.h1, codeHd_of_K KX k.h2, codeHd_of_K KX k.h3⟩
  tok := let ⟨es, n, e, r⟩ := k.tok; ⟨es, n, KX _ _ e, r⟩
  bm := by
    obtain ⟨bm, ob, h1, h2, h3, h4, h5, h6⟩ := T.bmain
    refine ⟨mg, bm, ob, T.g, h1, h2, fun h => ?_, h3, h4, h5, h6⟩
    have := hT bm h
    rw [h3] at this
    cases this
    cases h4
theorem start {prog : Program} {w : World} {s₁ : Shared} (hT : ∀ P ∈ tabsL, s₁.heap.get? P = some (tabObj #[])) : St ⟨prog, w, s₁⟩ [] s₁ where
  st := {
    keep := fun _ _ e _ => e
    own := fun _ h => nomatch h
    nodup := List.nodup_nil
    new := fun _ h => nomatch h
    fz := ⟨[], fun _ h => (nomatch h), fun P hP => ⟨#[], hT P hP, trivial, fun pos x e => by simp [codeAmong] at e⟩, fun _ _ _ h => (nomatch h)⟩ }
  os := rfl
  gens := rfl
theorem vrs_of_well {P : Params} {h : Heap} : ∀ (ns : List Int) {vs : List Value}, WellAll P h vs (ofPys (ns.map PyData.int)) → VRs (ns.map V.int) vs
  | [], vs, w => by cases w; trivial
  | n :: ns, vs, w => by
    cases w with
    | cons w1 w2 =>
      cases w1
      exact ⟨⟨_, rfl⟩, vrs_of_well ns w2⟩
theorem old_of {prog : Program} {w : World} {s₁ : Shared} {a : Addr} {ns : List Int} (hT : ∀ P ∈ tabsL, s₁.heap.get? P = some (tabObj #[])) (w1 : Well w.params s₁.heap (.ref a) (ofPy (PyData.list (ns.map PyData.int)))) : OldL ⟨prog, w, s₁⟩ a (ns.map V.int) := by
  intro s H S
  cases w1 with
  | list e wa =>
    rename_i vs
    have na : a ∉ tabsL := fun h => by
      have := hT a h
      rw [e] at this
      cases this
    exact ⟨_, S.st.keep _ _ e na, vs.toArray, 0, rfl, by simpa using vrs_of_well ns wa⟩
theorem oldK_of {c : Cx} {s : Shared} (G : Good c) (S : St c [] s) (hT : ∀ P ∈ tabsL, c.s₁.heap.get? P = some (tabObj #[])) : OldK c.s₁.heap s.heap := by
  have code : ∀ P ∈ tabsL, ∃ cc, CodeHd c.s₁.heap cc P := by
    intro P hP
    simp only [tabsL, List.mem_cons, List.not_mem_nil, or_false] at hP
    rcases hP with rfl | rfl | rfl
    · exact ⟨34, G.heads.1⟩
    · exact ⟨41, G.heads.2.1⟩
    · exact ⟨121, G.heads.2.2⟩
  obtain ⟨Z, hZ, hTab, _⟩ := S.st.fz
  refine ⟨fun b o e => ?_, fun b o e => ?_⟩
  · by_cases hb : b ∈ tabsL
    · obtain ⟨cc, hc⟩ := code b hb
      obtain ⟨ps, hp, _⟩ := hTab b hb
      have h0 := hT b hb
      rw [e] at h0
      cases h0
      exact .inr (.inl ⟨(hc.tab e).isCodeTable, rfl, #[], ps, rfl, by rw [hp]; simp [tabObj]⟩)
    · exact .inl (S.st.keep _ _ e hb)
  · by_cases hb : b ∈ tabsL
    · obtain ⟨ps, hp, _⟩ := hTab b hb
      exact ⟨_, hp⟩
    · exact ⟨_, S.st.keep _ _ e hb⟩
theorem room0 : Room 14 callerA := ⟨rfl, by decide +kernel, by decide +kernel⟩
theorem fin_walk {p : Program} {w : World} {s₁ : Shared} {loose : List Str} {mean mean' : ExcName → Option Value} {cl : Str → Option Addr} {mg mb : Str → Option Value} {a : Addr} {ns : List Int} {K : Params → Frag} (T : Top p loose mean mg mb s₁.heap) (KX : (K w.params).In s₁.heap) (k : KOk (K w.params) w.params)
    (hT : ∀ P ∈ tabsL, s₁.heap.get? P = some (tabObj #[])) (hg : s₁.gens = #[]) (w1 : Well w.params s₁.heap (.ref a) (ofPy (PyData.list (ns.map PyData.int)))) (hn : ns.length ≤ 63) :
    wpAny (model Challenge.rw_qu0052_01.row.prog w) callerA (call (.ref 166) [.ref a])
      (fun v s' => GoodWG Challenge.rw_qu0052_01.row.claim cl mean' [ofPy (PyData.list (ns.map PyData.int))] s₁ (.ok (.ret v)) s')
      (fun e s' => GoodWG Challenge.rw_qu0052_01.row.claim cl mean' [ofPy (PyData.list (ns.map PyData.int))] s₁ (.error e) s') s₁ := by
  have G : Good ⟨Challenge.rw_qu0052_01.row.prog, w, s₁⟩ := good_of T KX k hT
  have z := law_ok G room0 (start hT) (old_of hT w1) hn (.ref 166) [.ref a] rfl ⟨rfl, trivial⟩
  refine wpAny_mono z (fun v s' h => ?_) fun _ _ h => h.elim
  obtain ⟨v', rv, rfl, S⟩ := h
  cases rv
  refine ⟨.inl ⟨_, .bool true, [], rfl, fun _ => rfl, .bool true, ?_, fun _ => ⟨List.nodup_nil, fun _ h => nomatch h⟩⟩, oldK_of G S hT, S.os, .of_eq (S.gens.trans hg)⟩
  wrow_post
end
end Mine
end

open PySem PySem.W PySem.Calls PyProof.Rows
noncomputable def Mine.final.tw9874502665842185569 : Unit := ()
noncomputable def Mine.final.tw1036930978727434209 : Unit := ()
noncomputable def Mine.final.tw16224197975931463073 : Unit := ()
noncomputable def Mine.final.tw13993038294071673932 : Unit := ()
noncomputable def Mine.final.tw7103071557968147758 : Unit := ()
noncomputable def Mine.final.tw2503492995534839352 : Unit := ()
noncomputable def Mine.final.tw10136838083808060652 : Unit := ()
noncomputable def Mine.final.tw13298991427577712101 : Unit := ()
noncomputable def Mine.final.tw9815051736475309569 : Unit := ()
noncomputable def Mine.final.tw5089064438980251878 : Unit := ()
noncomputable def Mine.final.tw305392142758549388 : Unit := ()
noncomputable def Mine.final.tw8417726658802058942 : Unit := ()
noncomputable def Mine.final.tw9523604897794605703 : Unit := ()
noncomputable def Mine.final.tw9774023377897349885 : Unit := ()
noncomputable def Mine.final.tw2321079126958112427 : Unit := ()
noncomputable def Mine.final.tw7895919473546186562 : Unit := ()
noncomputable def Mine.final.tw12900595733005133062 : Unit := ()
noncomputable def Mine.final.tw1879425240415041952 : Unit := ()
noncomputable def Mine.final.tw10897546583699624312 : Unit := ()
noncomputable def Mine.final.tw3602936578197981452 : Unit := ()
noncomputable def Mine.final.tw16152952586699198599 : Unit := ()
noncomputable def Mine.final.tw4978577268980519545 : Unit := ()
noncomputable def Mine.final.tw18209651382716861065 : Unit := ()
noncomputable def Mine.final.tw9917796009047001856 : Unit := ()
noncomputable def Mine.final.tw18155322371103915347 : Unit := ()
noncomputable def Mine.final.tw11409176808490423547 : Unit := ()
noncomputable def Mine.final.tw1870604113638288131 : Unit := ()
noncomputable def Mine.final.tw7009362083800865533 : Unit := ()
noncomputable def Mine.final.tw10010272874993245601 : Unit := ()
noncomputable def Mine.final.tw12813686065312059881 : Unit := ()
noncomputable def Mine.final.tw10161721240196843986 : Unit := ()
noncomputable def Mine.final.tw16195603264935533082 : Unit := ()
noncomputable def Mine.final.tw17299782089999335445 : Unit := ()
noncomputable def Mine.final.tw12579368493340364875 : Unit := ()
noncomputable def Mine.final.tw4144371117990100604 : Unit := ()
noncomputable def Mine.final.tw12933409026105978606 : Unit := ()
noncomputable def Mine.final.tw8983094371880723818 : Unit := ()
noncomputable def Mine.final.tw13084178088124665500 : Unit := ()
noncomputable def Mine.final.tw1807292130814547012 : Unit := ()
noncomputable def Mine.final.tw17178561752005649357 : Unit := ()
noncomputable def Mine.final.tw14838063319114388084 : Unit := ()
noncomputable def Mine.final.tw12857474060036348902 : Unit := ()
noncomputable def Mine.final.tw11449768931154743443 : Unit := ()
noncomputable def Mine.final.tw8494221389510286962 : Unit := ()
noncomputable def Mine.final.tw3651465948642542242 : Unit := ()
noncomputable def Mine.final.tw12745456073798777040 : Unit := ()
noncomputable def Mine.final.tw15981178532920550917 : Unit := ()
noncomputable def Mine.final.tw12015204588933193610 : Unit := ()
noncomputable def Mine.final.tw14476525473978586552 : Unit := ()
noncomputable def Mine.final.tw11661903567044720909 : Unit := ()
noncomputable def Mine.final.tw8626431433666001865 : Unit := ()
noncomputable def Mine.final.tw11483661804922472206 : Unit := ()
noncomputable def Mine.final.tw1033934193855143035 : Unit := ()
noncomputable def Mine.final.tw738721121300774409 : Unit := ()
noncomputable def Mine.final.tw13272435591910737277 : Unit := ()
noncomputable def Mine.final.tw3268801115549755241 : Unit := ()
noncomputable def Mine.final.tw9788256078724583796 : Unit := ()
noncomputable def Mine.final.tw15187764968134394116 : Unit := ()
noncomputable def Mine.final.tw955534659494221573 : Unit := ()
noncomputable def Mine.final.tw17808083240501529409 : Unit := ()
noncomputable def Mine.final.tw15080971510701918577 : Unit := ()
noncomputable def Mine.final.tw7696433628538851831 : Unit := ()
set_option Elab.async true
set_option maxHeartbeats 8000000 in
theorem Mine.final : PySem.Challenge.rw_qu0052_01.Holds := by
  w_on; o_law; k_head; (case hw => w_witness2)
  k_fill
  intro w s₀ s₁ mg mb G Y fa o pm cd doc dV kV ho hd hcd hD hmg hg args vals as hpre hlay hrd hwl hlo
  have KX := km_in_of Y
  km_tabs Y
  refine Ground.open G ?_
  intro T B D TE TW
  wrow_args hpre hlay hrd hwl hlo
  x_fa T KX hmg
  refine Mine.fin_walk T KX ⟨by kernel_rfl, by kernel_rfl, by kernel_rfl, by kernel_rfl, by kernel_rfl, by kernel_rfl, by kernel_rfl, ⟨_, _, rfl, ?_, ?_⟩⟩ hT8 hg (by assumption) (by omega)
  · repeat (first | exact trivial | refine ⟨⟨_, _, rfl, rfl⟩, ?_⟩)
  · repeat (first | exact trivial | refine ⟨⟨_, _, rfl, rfl⟩, ?_⟩)
theorem PySem.Challenge.cw_qu0052_01_holds : PySem.Challenge.rw_qu0052_01.Holds := by
  exact Mine.final
